import Derived.Test.Qxb6609507aBuild1
import Derived.Test.Qxb6609507aClosed
namespace Go.Proofs.Qxb6609507a
set_option linter.unusedVariables false
set_option linter.unusedSimpArgs false
open Go.ChangeShapes Go.WideShapes Go.ChangeAt Go.RowKit
/-- The layout's rows. -/
def XS (s : St) (ro : List Nat) (rs : List RunE) : Nat → List Value := fun i =>
  if i < 5 then (s.k i).map (fun e => .int .i32 e.first)
  else if i < 10 then (s.k (i - 5)).map (fun e => .int .i32 e.parent)
  else if i < 15 then (s.k (i - 10)).map (fun e => .int .i32 e.child)
  else if i < 20 then (s.c (i - 15)).map (fun e => .bool e.top)
  else if i = 20 then ro.map (fun n : Nat => .int .i32 n)
  else if i = 21 then rs.map (fun r => .int .i8 r.level)
  else if i = 22 then rs.map (fun r => .int .i32 r.first)
  else if i = 23 then rs.map (fun r => .int .i32 r.ord)
  else rs.map (fun r => .int .i32 r.count)
section
variable (s : St) (ro : List Nat) (rs : List RunE) (l : Nat) (hl : l < 5)
include hl
theorem XS_first : XS s ro rs l = (s.k l).map (fun e => .int .i32 e.first) := by unfold XS; rw [if_pos hl]
theorem XS_parent : XS s ro rs (5 + l) = (s.k l).map (fun e => .int .i32 e.parent) := by
  unfold XS; rw [if_neg (by omega), if_pos (by omega), show 5 + l - 5 = l by omega]
theorem XS_child : XS s ro rs (10 + l) = (s.k l).map (fun e => .int .i32 e.child) := by
  unfold XS; rw [if_neg (by omega), if_neg (by omega), if_pos (by omega), show 10 + l - 10 = l by omega]
theorem XS_top : XS s ro rs (15 + l) = (s.c l).map (fun e => .bool e.top) := by
  unfold XS; rw [if_neg (by omega), if_neg (by omega), if_neg (by omega), if_pos (by omega), show 15 + l - 15 = l by omega]
theorem XS_push (c : CellE) (e : LinkE) (X1 X2 X3 : Nat → List Value) (h1 : X1 = updV (XS s ro rs) l (XS s ro rs l ++ [.int .i32 e.first])) (h2 : X2 = updV X1 (5 + l) (X1 (5 + l) ++ [.int .i32 e.parent])) (h3 : X3 = updV X2 (15 + l) (X2 (15 + l) ++ [.bool c.top])) :
    updV X3 (10 + l) (X3 (10 + l) ++ [.int .i32 e.child]) = XS ((s.pushC l c).pushK l e) ro rs := by
  have e3 : X3 (10 + l) = XS s ro rs (10 + l) := by rw [h3, h2, h1]; unfold updV; rw [if_neg (by omega), if_neg (by omega), if_neg (by omega)]
  have e2 : X2 (15 + l) = XS s ro rs (15 + l) := by rw [h2, h1]; unfold updV; rw [if_neg (by omega), if_neg (by omega)]
  have e1 : X1 (5 + l) = XS s ro rs (5 + l) := by rw [h1]; unfold updV; rw [if_neg (by omega)]
  rw [e3, h3, e2, h2, e1, h1, XS_first s ro rs l hl, XS_parent s ro rs l hl, XS_child s ro rs l hl, XS_top s ro rs l hl]
  funext i
  unfold updV
  by_cases i10 : i = 10 + l
  · subst i10
    rw [XS_child ((s.pushC l c).pushK l e) ro rs l hl]; simp [St.pushK, St.pushC]
  · by_cases i15 : i = 15 + l
    · subst i15
      rw [XS_top ((s.pushC l c).pushK l e) ro rs l hl]; simp [St.pushK, St.pushC, show ¬ (15 + l = 10 + l) by omega]
    · by_cases i5 : i = 5 + l
      · subst i5
        rw [XS_parent ((s.pushC l c).pushK l e) ro rs l hl]; simp [St.pushK, St.pushC, i10, i15]
      · by_cases i0 : i = l
        · subst i0
          rw [XS_first ((s.pushC i c).pushK i e) ro rs i hl]; simp [St.pushK, St.pushC, i10, i15, i5]
        · simp only [if_neg i10, if_neg i15, if_neg i5, if_neg i0]
          unfold XS St.pushK St.pushC
          simp only [if_neg i0, show (i - 5 = l) = (i - 5 = l) from rfl]
          split
          · rfl
          · split
            · rw [if_neg (by omega)]
            · split
              · rw [if_neg (by omega)]
              · split
                · rw [if_neg (by omega)]
                · rfl
end
theorem XS_root (s : St) (ro : List Nat) (rs : List RunE) (n : Nat) : updV (XS s ro rs) 20 (XS s ro rs 20 ++ [.int .i32 n]) = XS s (ro ++ [n]) rs := by
  funext i
  unfold updV XS
  by_cases h : i = 20
  · subst h; simp
  · simp [h]
theorem XS_run (s : St) (ro : List Nat) (rs : List RunE) (r : RunE) (X1 X2 X3 : Nat → List Value) (h1 : X1 = updV (XS s ro rs) 21 (XS s ro rs 21 ++ [.int .i8 r.level])) (h2 : X2 = updV X1 22 (X1 22 ++ [.int .i32 r.first])) (h3 : X3 = updV X2 23 (X2 23 ++ [.int .i32 r.ord])) :
    ∀ i, i < 25 → updV X3 24 (X3 24 ++ [.int .i32 r.count]) i = XS s ro (rs ++ [r]) i := by
  intro i hi
  subst h3; subst h2; subst h1
  by_cases h4 : i = 24
  · subst h4; simp [updV, XS]
  · by_cases h3 : i = 23
    · subst h3; simp [updV, XS]
    · by_cases h2 : i = 22
      · subst h2; simp [updV, XS]
      · by_cases h1 : i = 21
        · subst h1; simp [updV, XS]
        · simp only [updV, if_neg h4, if_neg h3, if_neg h2, if_neg h1]
          unfold XS
          by_cases h20 : i < 20
          · by_cases a : i < 5
            · simp [a]
            · by_cases b : i < 10
              · simp [a, b]
              · by_cases c : i < 15
                · simp [a, b, c]
                · simp [a, b, c, h20]
          · obtain rfl : i = 20 := by omega
            simp
theorem XS_bump (s : St) (ro : List Nat) (rs : List RunE) (m : Nat) (hm : m < rs.length) : ∀ i, i < 25 → updV (XS s ro rs) 24 ((XS s ro rs 24).set m (.int .i32 ((rs[m].count + 1 : Nat) : Int))) i = XS s ro (rs.modify m RunE.inc) i := by
  intro i hi
  have key : ∀ (f : RunE → Value), (∀ r, f r.inc = f r) → (rs.modify m RunE.inc).map f = rs.map f := by
    intro f hf
    apply List.ext_getElem (by simp)
    intro k h1 h2
    simp only [List.getElem_map, List.getElem_modify]
    split
    · exact hf _
    · rfl
  by_cases h4 : i = 24
  · subst h4
    simp only [updV, if_true, XS]
    simp
    apply List.ext_getElem (by simp)
    intro k h1 h2
    simp only [List.getElem_map, List.getElem_modify, List.getElem_set]
    split
    · rename_i h; subst h; simp [RunE.inc]
    · rfl
  · simp only [updV, if_neg h4]
    unfold XS
    rw [key (fun r => .int .i8 r.level) (fun _ => rfl), key (fun r => .int .i32 r.first) (fun _ => rfl), key (fun r => .int .i32 r.ord) (fun _ => rfl)]
    split; rfl; split; rfl; split; rfl; split; rfl; split; rfl; split; rfl; split; rfl; split; rfl; omega
theorem Bld.congr {w : World} {mB base : Nat} {C0 : List Value} {V : Nat → Value} {X X' : Nat → List Value} (h : Bld w mB base C0 V X) (he : ∀ i, i < 25 → X i = X' i) : Bld w mB base C0 V X' :=
  ⟨h.blk, h.len, fun i hi => he i hi ▸ h.own i hi, h.apart⟩
/-- A cell of one of the rows turned. -/
theorem Bld.setRow {w : World} {mB base : Nat} {C0 : List Value} {V : Nat → Value} {X : Nat → List Value} (h : Bld w mB base C0 V X) (i : Nat) (hi : i < 25) {g cap o : Nat} (hv : V i = .slice (some ⟨g, 0, none⟩) (X i).length cap) (ho : o < (X i).length) (v : Value) :
    Bld (w.setCell ⟨g, o, none⟩ v) mB base C0 V (updV X i ((X i).set o v)) := by
  have hown := h.own i hi
  rw [hv] at hown
  have hk : Kinds w [g] [rowT i] := fun u hu => ⟨rowT i, by simp, by obtain rfl : u = g := by simpa using hu
                                                                     exact own_typed hown u rfl⟩
  have hu : Upd [g] w (w.setCell ⟨g, o, none⟩ v) := Upd.setCell w g o v (by simp)
  refine ⟨h.blk.keep hu hk (by simp; exact fun e => (rowT_ne i).1 e.symm), h.len, fun k hk' => ?_, h.apart⟩
  by_cases hki : k = i
  · subst hki
    simp only [updV, if_true, List.length_set]
    have := own_set hown (o := o) (by omega) v
    rw [← hv] at this
    exact this
  · simp only [updV, if_neg hki]
    exact ownsRow_upd (h.own k hk') hu (fun g' hg' hx => by
      obtain rfl : g' = g := by simpa using hx
      exact h.apart k i hk' hi hki g' hg' (by rw [hv]; rfl))
/-! ### The surroundings of zzBuild -/
structure BS (w0 : World) (base : Nat) (T : Topo) (V : Nat → Value) (X : Nat → List Value) (w : World) : Prop where
  sz : Blk w base T.szV 24
  fan : Blk w (base + 1) T.fanV 25
  res : ∃ z : List Value, Blk w (base + 2) z 33 ∧ z.length = 36
  bld : Bld w (base + 3) base (T.szV ++ T.fanV) V X
  bel : Below base w0 w
structure Cl (base bb : Nat) (T : Topo) (B : List Value) (V : Nat → Value) (w : World) : Prop where
  sz : Blk w base T.szV 24
  fan : Blk w (base + 1) T.fanV 25
  bas : Blk w bb B 24
  mb : Blk w (base + 3) (T.szV ++ T.fanV ++ (List.range 25).map V) 33
  big : base ≤ w.heap.size
theorem Cl.keep {base bb : Nat} {T : Topo} {B : List Value} {V : Nat → Value} {w w' : World} {us : List Nat} {i : Nat} (h : Cl base bb T B V w) (hu : Upd us w w') (hk : Kinds w us [rowT i]) : Cl base bb T B V w' := by
  have hn := rowT_ne i
  exact ⟨h.sz.keep hu hk (by simp; exact fun e => hn.2.1 e.symm), h.fan.keep hu hk (by simp; exact fun e => hn.2.2 e.symm), h.bas.keep hu hk (by simp; exact fun e => hn.2.1 e.symm), h.mb.keep hu hk (by simp; exact fun e => hn.1 e.symm), Nat.le_trans h.big hu.size⟩
theorem Cl.upd0 {base bb : Nat} {T : Topo} {B : List Value} {V : Nat → Value} {w w' : World} (h : Cl base bb T B V w) (hu : Upd [] w w') : Cl base bb T B V w' :=
  ⟨h.sz.upd hu (by simp), h.fan.upd hu (by simp), h.bas.upd hu (by simp), h.mb.upd hu (by simp), Nat.le_trans h.big hu.size⟩
section
variable {w0 w w1 w2 w3 : World} {base bb : Nat} {T : Topo} {B : List Value} {V : Nat → Value} {X : Nat → List Value}
theorem BS.cl (h : BS w0 base T V X w) (hb : Blk w bb B 24) : Cl base bb T B V w := ⟨h.sz, h.fan, hb, h.bld.blk, Nat.le_trans (Nat.le_of_lt h.sz.lt) (Nat.le_refl _)⟩
theorem BS.upd0 (h : BS w0 base T V X w) (hu : Upd [] w w1) : BS w0 base T V X w1 := by
  obtain ⟨z, hz, hzl⟩ := h.res
  exact ⟨h.sz.upd hu (by simp), h.fan.upd hu (by simp), ⟨z, hz.upd hu (by simp), hzl⟩, h.bld.upd0 hu, h.bel.trans (hu.below base (by simp) (Nat.le_of_lt h.sz.lt))⟩
/-- A row appended to: the slice of one element at w1 = w.alloc .., the append w2, the store w3. -/
theorem BS.push (h : BS w0 base T V X w) (hb : Blk w bb B 24) (i : Nat) (hi : i < 25) {o : Obj} {v' u : Value} (hown : w2.ownsRow base (rowT i) 1 v' ((X i).length + 1) (X i ++ [u])) (hg : (w.alloc o).grownBy w2 (V i).ownBlock) (hf : ∀ g, v'.ownBlock = some g → (V i).ownBlock = some g ∨ (w.alloc o).heap.size ≤ g)
    (hs : Blk w3 (base + 3) ((T.szV ++ T.fanV ++ (List.range 25).map V).set (11 + i) v') 33) (hg3 : w2.grownBy w3 (some (base + 3))) : BS w0 base T (updV V i v') (updV X i (X i ++ [u])) w3 ∧ Blk w3 bb B 24 := by
  have h1 := h.upd0 (Upd.alloc [] w o)
  have U2 : Upd (V i).ownBlock.toList (w.alloc o) w2 := Upd.ofGrown hg (by intro b e; simp [e])
  have K2 := own_kinds (h1.bld.own i hi)
  have hn := rowT_ne i
  have U3 : Upd [base + 3] w2 w3 := Upd.ofGrown hg3 (by intro b e; cases e; simp)
  have bel2 := U2.below base (own_low (h1.bld.own i hi)) (Nat.le_of_lt h1.sz.lt)
  obtain ⟨z, hz, hzl⟩ := h1.res
  have hb1 : Blk (w.alloc o) bb B 24 := hb.upd (Upd.alloc [] w o) (by simp)
  have hbb : bb ≠ base + 3 := hb.typed.ne h.bld.blk.typed (by decide)
  refine ⟨⟨(h1.sz.keep U2 K2 (by simp; exact fun e => hn.2.1 e.symm)).upd U3 (by simp), (h1.fan.keep U2 K2 (by simp; exact fun e => hn.2.2 e.symm)).upd U3 (by simp), ⟨z, (hz.keep U2 K2 (by simp; exact fun e => hn.1 e.symm)).upd U3 (by simp), hzl⟩, h1.bld.push i hi hown hg hf hs hg3, h1.bel.trans (bel2.trans (U3.below base (by simp) (Nat.le_trans (Nat.le_of_lt h1.sz.lt) U2.size)))⟩, (hb1.keep U2 K2 (by simp; exact fun e => hn.2.1 e.symm)).upd U3 (by simpa using hbb)⟩
end
def roJ (T : Topo) (tl : List Nat) : Nat → List Nat
  | 0 => []
  | j + 1 => roJ T tl j ++ [ordJ T tl j]
theorem roJ_len (T : Topo) (tl : List Nat) : ∀ j, (roJ T tl j).length = j
  | 0 => rfl
  | j + 1 => by rw [roJ, List.length_append, roJ_len T tl j]; rfl
/-- What zzBuild hands back. -/
def BuildRes (T : Topo) (tl : List Nat) (w : World) (e : Ending) (w' : World) : Prop :=
  ∃ V, e = .returned (.agg (T.szV ++ T.fanV ++ (List.range 25).map V).toArray) ∧ (∀ i, i < 25 → w'.ownsRow w.heap.size (rowT i) 1 (V i) (XS (stJ T tl tl.length) (roJ T tl tl.length) (runsJ T tl tl.length) i).length (XS (stJ T tl tl.length) (roJ T tl tl.length) (runsJ T tl tl.length) i)) ∧ Below w.heap.size w w'
end Go.Proofs.Qxb6609507a
