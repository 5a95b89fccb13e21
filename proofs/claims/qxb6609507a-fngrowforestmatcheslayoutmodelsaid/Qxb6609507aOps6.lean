import Derived.Test.Qxb6609507aBuild2
namespace Go.Proofs.Qxb6609507a
set_option linter.unusedVariables false
set_option linter.unusedSimpArgs false
open Go.ChangeShapes Go.WideShapes Go.ChangeAt Go.RowKit
section
variable {d : Option Tmp} {ty t' : TypeId} {pos : String} {af : Array Edge} {g : Option (Nat × Bool)} {a : Act} {x y : Operand}
theorem exec_quo2 {p q : Nat} (hx : a.eval x = .int .i64 p) (hy : a.eval y = .int .i64 q) (hq : 1 ≤ q) (hp : p ≤ 4294967296) (w : World) :
    (execOp a.eval { dst := d, op := .binOp .quo 2 x y t', type := ty, pos := pos, after := af, guard := g }).run Try.prog w = .ok (.value (.int .i64 ((p / q : Nat) : Int))) w := by
  have hq0 : ¬ (q : Int) = 0 := by omega
  simp only [execOp, hx, hy]
  simp [go_sem, hq0]
  rw [if_neg (by omega)]
  have hd : ((p : Int) / (q : Int)) = ((p / q : Nat) : Int) := by simp
  have hw : IntKind.i64.wrap ((p : Int) / (q : Int)) = ((p : Int) / (q : Int)) := by
    rw [hd, IntKind.wrap_i64]
    have := Nat.div_le_self p q
    generalize p / q = r at *
    omega
  rw [hw]
theorem exec_add2 {p q : Nat} (hx : a.eval x = .int .i64 p) (hy : a.eval y = .int .i64 q) (hb : p + q ≤ 4294967296) (w : World) :
    (execOp a.eval { dst := d, op := .binOp .add 2 x y t', type := ty, pos := pos, after := af, guard := g }).run Try.prog w = .ok (.value (.int .i64 ((p + q : Nat) : Int))) w := by
  simp only [execOp, hx, hy]
  simp [go_sem]
  rw [IntKind.wrap_i64]; omega
theorem exec_mul2 {p q : Nat} (hx : a.eval x = .int .i64 p) (hy : a.eval y = .int .i64 q) (hb : p * q ≤ 4294967296) (w : World) :
    (execOp a.eval { dst := d, op := .binOp .mul 2 x y t', type := ty, pos := pos, after := af, guard := g }).run Try.prog w = .ok (.value (.int .i64 ((p * q : Nat) : Int))) w := by
  simp only [execOp, hx, hy]
  simp [go_sem]
  have : ((p * q : Nat) : Int) ≤ 4294967296 := by omega
  have h0 : (0 : Int) ≤ ((p * q : Nat) : Int) := Int.natCast_nonneg _
  rw [Int.natCast_mul] at this h0
  rw [IntKind.wrap_i64]; omega
theorem exec_inc64 {p : Nat} (hx : a.eval x = .int .i64 p) (hb : p + 1 ≤ 4294967296) (w : World) :
    (execOp a.eval { dst := d, op := .binOp .add 3 x (.const (.int .i64 1)) t', type := ty, pos := pos, after := af, guard := g }).run Try.prog w = .ok (.value (.int .i64 ((p + 1 : Nat) : Int))) w := by
  have he : a.eval (.const (.int .i64 1)) = .int .i64 1 := rfl
  simp only [execOp, hx, he]
  simp [go_sem]
  rw [IntKind.wrap_i64]; omega
theorem exec_dec64 {p : Nat} (hx : a.eval x = .int .i64 p) (h1 : 1 ≤ p) (hb : p ≤ 4294967296) (w : World) :
    (execOp a.eval { dst := d, op := .binOp .sub 3 x (.const (.int .i64 1)) t', type := ty, pos := pos, after := af, guard := g }).run Try.prog w = .ok (.value (.int .i64 ((p - 1 : Nat) : Int))) w := by
  have he : a.eval (.const (.int .i64 1)) = .int .i64 1 := rfl
  simp only [execOp, hx, he]
  simp [go_sem]
  rw [IntKind.wrap_i64]; omega
theorem exec_conv2 {n : Nat} (hx : a.eval x = .int .i64 n) (hn : n ≤ 2147483647) (w : World) :
    (execOp a.eval { dst := d, op := .convert 2 21 x, type := ty, pos := pos, after := af, guard := g }).run Try.prog w = .ok (.value (.int .i32 n)) w := by
  simp only [execOp, hx]
  simp [go_sem, run_underlying Try.underlying2, run_underlying Try.underlying21]
  rw [IntKind.wrap_i32]; omega
end
theorem size2 : (Try.prog.info? 2).map (·.size) = some 1 := by kernel_rfl
theorem one2 : oneB Try.prog 2 = true := by kernel_rfl
theorem one28 : oneB Try.prog 28 = true := by kernel_rfl
theorem one22 : oneB Try.prog 22 = true := by kernel_rfl
theorem one45 : oneB Try.prog 45 = true := by kernel_rfl
theorem size28 : (Try.prog.info? 28).map (·.size) = some 1 := by kernel_rfl
theorem size30 : (Try.prog.info? 30).map (·.size) = some 1 := by kernel_rfl
theorem size22 : (Try.prog.info? 22).map (·.size) = some 1 := by kernel_rfl
theorem size33 : (Try.prog.info? 33).map (·.size) = some 36 := by kernel_rfl
theorem agg33 : aggB Try.prog 33 = true := by kernel_rfl
theorem fo33_2 : fieldOff Try.prog 33 2 = some 11 := by kernel_rfl
theorem fo33_3 : fieldOff Try.prog 33 3 = some 16 := by kernel_rfl
theorem fo33_4 : fieldOff Try.prog 33 4 = some 21 := by kernel_rfl
theorem fo33_5 : fieldOff Try.prog 33 5 = some 26 := by kernel_rfl
theorem fo33_6 : fieldOff Try.prog 33 6 = some 31 := by kernel_rfl
theorem fo33_7 : fieldOff Try.prog 33 7 = some 32 := by kernel_rfl
theorem fo33_8 : fieldOff Try.prog 33 8 = some 33 := by kernel_rfl
theorem fo33_9 : fieldOff Try.prog 33 9 = some 34 := by kernel_rfl
theorem fo33_10 : fieldOff Try.prog 33 10 = some 35 := by kernel_rfl
theorem info21 : (Try.prog.info? 21).map (fun i => (i.zero, i.size, i.bytes)) = some (some (.int .i32 0), 1, 4) := by kernel_rfl
theorem info4 : (Try.prog.info? 4).map (fun i => (i.zero, i.size, i.bytes)) = some (some (.bool false), 1, 1) := by kernel_rfl
theorem info45 : (Try.prog.info? 45).map (fun i => (i.zero, i.size, i.bytes)) = some (some (.int .i8 0), 1, 1) := by kernel_rfl
theorem rowT_lo {i : Nat} (h : i < 15) : rowT i = 21 := by unfold rowT; rw [if_pos h]
theorem rowT_top {l : Nat} (h : l < 5) : rowT (15 + l) = 4 := by unfold rowT; rw [if_neg (by omega), if_pos (by omega)]
theorem szV_cell {w : World} {b : Nat} {T : Topo} (h : Blk w b T.szV 24) (l : Nat) (hl : l < 5) : w.cell? ⟨b, l, none⟩ = some (.int .i64 (T.sz l)) := by
  rw [h.cell]; simp [Topo.szV, hl]
theorem fanV_cell {w : World} {b : Nat} {T : Topo} (h : Blk w b T.fanV 25) (l : Nat) (hl : l < 6) : w.cell? ⟨b, l, none⟩ = some (.int .i64 (T.fan l)) := by
  rw [h.cell]; simp [Topo.fanV, hl]
def baseRow (f : Nat → Nat) (m : Nat) : List Value := (List.range 5).map fun k => .int .i64 (if k < m then f k else 0 : Nat)
theorem baseRow_cell {w : World} {b : Nat} {f : Nat → Nat} (h : Blk w b (baseRow f 5) 24) (l : Nat) (hl : l < 5) : w.cell? ⟨b, l, none⟩ = some (.int .i64 (f l)) := by
  rw [h.cell]; simp [baseRow, hl]
theorem baseRow_set (f : Nat → Nat) (m : Nat) (hm : m < 5) : (baseRow f m).set m (.int .i64 (f m)) = baseRow f (m + 1) := by
  unfold baseRow
  refine range_set _ _ m hm _ (by simp) fun k hk => ?_
  have : (k < m + 1) = (k < m) := by simp; omega
  simp [this]
theorem own_form {w : World} {base e size n : Nat} {v : Value} {xs : List Value} (h : w.ownsRow base e size v n xs) : ∃ ad cap, v = .slice ad n cap := by
  rcases h.2 with ⟨rfl, rfl⟩ | ⟨g, cap, cur, rfl, _⟩
  · exact ⟨_, _, rfl⟩
  · exact ⟨_, _, rfl⟩
theorem cell_new1 (w : World) (x : Value) (t : TypeId) : (w.alloc (.cells #[x] t)).cell? ⟨w.heap.size, 0, none⟩ = some x := by
  rw [(blk_new w [x] t).cell]; rfl
theorem Cl.cell {base bb : Nat} {T : Topo} {B : List Value} {V : Nat → Value} {w : World} (h : Cl base bb T B V w) (i : Nat) (hi : i < 25) : w.cell? ⟨base + 3, 11 + i, none⟩ = some (V i) := by
  rw [h.mb.cell, List.getElem?_append_right (by simp [Topo.szV, Topo.fanV])]
  simp [Topo.szV, Topo.fanV, hi]
theorem szV_one (T : Topo) : ∀ v ∈ T.szV, v.oneCell' = true := by
  intro v hv
  obtain ⟨l, _, rfl⟩ := List.mem_map.1 hv
  rfl
theorem fanV_one (T : Topo) : ∀ v ∈ T.fanV, v.oneCell' = true := by
  intro v hv
  obtain ⟨l, _, rfl⟩ := List.mem_map.1 hv
  rfl
theorem XS_nil (i : Nat) : XS st0 [] [] i = [] := by
  unfold XS st0
  simp
theorem bs_start {w0 w4 w1 w2 : World} {base : Nat} {T : Topo} {Z : List Value} (hz : Z = List.replicate 11 (.int .i64 0) ++ List.replicate 25 (.slice none 0 0)) (h1 : Blk w4 base T.szV 24) (h2 : Blk w4 (base + 1) T.fanV 25) (h3 : Blk w4 (base + 2) Z 33) (hbel : Below base w0 w4) (hg1 : w4.grownBy w1 (some (base + 3))) (hg2 : w1.grownBy w2 (some (base + 3)))
    (hb : Blk w2 (base + 3) ((Z.take 0 ++ T.szV ++ Z.drop (0 + 5)).take 5 ++ T.fanV ++ (Z.take 0 ++ T.szV ++ Z.drop (0 + 5)).drop (5 + 6)) 33) : BS w0 base T (fun _ => .slice none 0 0) (XS st0 [] []) w2 := by
  have U : Upd [base + 3] w4 w2 := (Upd.ofGrown hg1 (by intro b e; cases e; simp)).trans (Upd.ofGrown hg2 (by intro b e; cases e; simp))
  have e : (Z.take 0 ++ T.szV ++ Z.drop (0 + 5)).take 5 ++ T.fanV ++ (Z.take 0 ++ T.szV ++ Z.drop (0 + 5)).drop (5 + 6) = T.szV ++ T.fanV ++ (List.range 25).map (fun _ => .slice none 0 0) := by
    subst hz; rfl
  rw [e] at hb
  refine ⟨h1.upd U (by simp), h2.upd U (by simp), ⟨Z, h3.upd U (by simp), by rw [hz]; simp⟩, ⟨hb, by simp [Topo.szV, Topo.fanV], fun i hi => ?_, fun i i' _ _ _ g hg => by simp [Value.ownBlock] at hg⟩, hbel.trans (U.below base (by simp) (Nat.le_of_lt h1.lt))⟩
  rw [XS_nil]; exact World.ownsRow_nil _ _ _ _
theorem parent_bound {T : Topo} {tl : List Nat} {j l k : Nat} (ht : Tops T tl) (hjt : j < tl.length) (htj : tl[j] ≤ 4) (hlt : l ≤ tl[j]) (hkl : k < cntT T tl[j] l) (hne : ¬ l = tl[j]) : 1 ≤ T.fan (l + 1) ∧ lens (stJ T tl j) (l + 1) + k / T.fan (l + 1) ≤ 65536 := by
  have hs := cntT_step T tl[j] l (by omega)
  have hf : 1 ≤ T.fan (l + 1) := by
    rcases Nat.eq_zero_or_pos (T.fan (l + 1)) with h | h
    · rw [hs, h, Nat.mul_zero] at hkl; omega
    · exact h
  refine ⟨hf, ?_⟩
  have h1 := cntSum_le T tl (l + 1) (j + 1)
  have h2 := Nof_le ht (l + 1)
  have h3 : lens (stJ T tl j) (l + 1) = cntSum T tl (l + 1) j := (stJ_len T tl (l + 1) j (by omega)).1
  rw [cntSum_succ T tl _ j hjt] at h1
  have h4 : k / T.fan (l + 1) < cntT T tl[j] (l + 1) := by rw [Nat.div_lt_iff_lt_mul hf, ← hs]; exact hkl
  omega
theorem child_bound {T : Topo} {tl : List Nat} {j l k : Nat} (ht : Tops T tl) (hjt : j < tl.length) (htj : tl[j] ≤ 4) (hlt : l ≤ tl[j]) (hkl : k < cntT T tl[j] l) (h0 : ¬ l = 0) : lens (stJ T tl j) (l - 1) + k * T.fan l ≤ 65536 ∧ k * T.fan l ≤ 65536 := by
  have hs := cntT_step T tl[j] (l - 1) (by omega)
  rw [show l - 1 + 1 = l by omega] at hs
  have h1 := cntSum_le T tl (l - 1) (j + 1)
  have h2 := Nof_le ht (l - 1)
  have h3 : lens (stJ T tl j) (l - 1) = cntSum T tl (l - 1) j := (stJ_len T tl (l - 1) j (by omega)).1
  rw [cntSum_succ T tl _ j hjt] at h1
  have h4 : k * T.fan l ≤ cntT T tl[j] (l - 1) := by rw [hs]; exact Nat.mul_le_mul_right _ (by omega)
  omega
theorem Upd.drewN (bs : List Nat) (w : World) (k : Nat) : Upd bs w (w.drewN k) := ⟨Nat.le_refl _, fun _ _ _ => rfl, fun B _ _ => ⟨rfl, rfl, rfl, Nat.le_refl _, fun _ _ => rfl⟩⟩
theorem BS.congr {w0 w : World} {base : Nat} {T : Topo} {V : Nat → Value} {X X' : Nat → List Value} (h : BS w0 base T V X w) (he : ∀ i, i < 25 → X i = X' i) : BS w0 base T V X' w := ⟨h.sz, h.fan, h.res, h.bld.congr he, h.bel⟩
theorem BS.setRow {w0 w : World} {base : Nat} {T : Topo} {V : Nat → Value} {X : Nat → List Value} (h : BS w0 base T V X w) (i : Nat) (hi : i < 25) {g cap o : Nat} (hv : V i = .slice (some ⟨g, 0, none⟩) (X i).length cap) (ho : o < (X i).length) (v : Value) :
    BS w0 base T V (updV X i ((X i).set o v)) (w.setCell ⟨g, o, none⟩ v) := by
  have hown := h.bld.own i hi
  rw [hv] at hown
  have hn := rowT_ne i
  have hg := own_ge hown g rfl
  have hk : Kinds w [g] [rowT i] := by
    intro u hu
    obtain rfl : u = g := by simpa using hu
    exact ⟨rowT i, by simp, own_typed hown u rfl⟩
  have hu : Upd [g] w (w.setCell ⟨g, o, none⟩ v) := Upd.setCell w g o v (by simp)
  obtain ⟨z, hz, hzl⟩ := h.res
  exact ⟨h.sz.keep hu hk (by simp; exact fun e => hn.2.1 e.symm), h.fan.keep hu hk (by simp; exact fun e => hn.2.2 e.symm), ⟨z, hz.keep hu hk (by simp; exact fun e => hn.1 e.symm), hzl⟩, h.bld.setRow i hi hv ho v, h.bel.setCell (p := ⟨g, o, none⟩) hg.1 v⟩
theorem own_form1 {w : World} {base e size n : Nat} {v : Value} {xs : List Value} (h : w.ownsRow base e size v (n + 1) xs) : ∃ g cap, v = .slice (some ⟨g, 0, none⟩) (n + 1) cap := by
  rcases h.2 with ⟨_, h'⟩ | ⟨g, cap, cur, rfl, _⟩
  · omega
  · exact ⟨_, _, rfl⟩
theorem elem22 : elemSize Try.prog 22 = some 1 := by kernel_rfl
theorem cells_one (T : Topo) (V : Nat → Value) {w0 w : World} {base : Nat} {X : Nat → List Value} (h : BS w0 base T V X w) : ∀ v ∈ T.szV ++ T.fanV ++ (List.range 25).map V, v.oneCell' = true := by
  intro v hv
  rcases List.mem_append.1 hv with hv | hv
  · rcases List.mem_append.1 hv with hv | hv
    · exact szV_one T v hv
    · exact fanV_one T v hv
  · obtain ⟨i, hi, rfl⟩ := List.mem_map.1 hv
    exact (ownsRow_one (h.bld.own i (List.mem_range.1 hi))).1
theorem len36 (T : Topo) (V : Nat → Value) : (T.szV ++ T.fanV ++ (List.range 25).map V).length = 36 := by simp [Topo.szV, Topo.fanV]
section
variable {d : Option Tmp} {ty t' : TypeId} {pos : String} {af : Array Edge} {g : Option (Nat × Bool)} {a : Act} {x y : Operand}
theorem exec_geq_f {n : Int} (hx : a.eval x = .int .i64 n) (hn : n < 0) (w : World) :
    (execOp a.eval { dst := d, op := .binOp .geq 3 x (.const (.int .i64 0)) t', type := ty, pos := pos, after := af, guard := g }).run Try.prog w = .ok (.value (.bool false)) w := by
  have he : a.eval (.const (.int .i64 0)) = .int .i64 0 := rfl
  simp only [execOp, hx, he]
  simp [go_sem]; omega
theorem exec_geq_t {n : Int} (hx : a.eval x = .int .i64 n) (hn : 0 ≤ n) (w : World) :
    (execOp a.eval { dst := d, op := .binOp .geq 3 x (.const (.int .i64 0)) t', type := ty, pos := pos, after := af, guard := g }).run Try.prog w = .ok (.value (.bool true)) w := by
  have he : a.eval (.const (.int .i64 0)) = .int .i64 0 := rfl
  simp only [execOp, hx, he]
  simp [go_sem]; omega
theorem exec_eql_t {p q : Nat} (hx : a.eval x = .int .i8 p) (hy : a.eval y = .int .i8 q) (h : p = q) (w : World) :
    (execOp a.eval { dst := d, op := .binOp .eql 45 x y t', type := ty, pos := pos, after := af, guard := g }).run Try.prog w = .ok (.value (.bool true)) w := by
  simp only [execOp, hx, hy]
  simp [go_sem, h]
theorem exec_eql_f {p q : Nat} (hx : a.eval x = .int .i8 p) (hy : a.eval y = .int .i8 q) (h : ¬ p = q) (w : World) :
    (execOp a.eval { dst := d, op := .binOp .eql 45 x y t', type := ty, pos := pos, after := af, guard := g }).run Try.prog w = .ok (.value (.bool false)) w := by
  have : ¬ ((p : Int) = (q : Int)) := by omega
  simp only [execOp, hx, hy]
  simp [go_sem, this]
end
theorem wq_skip {P : Program} {ops : Array Oper} {C : World → Prop} {Q : Act → Prop} {rest : List Oper} {o : Oper} {a : Act} (hw : Region.wanted o (yielded ops a.tmps) = false) (d : Nat) (hd : o.dst = some d) (h : wpQuiet P ops C Q rest (a.put (some d) undef)) : wpQuiet P ops C Q (o :: rest) a :=
  wpQuiet_step fun K hK => by rw [if_neg (by rw [hw]; exact Bool.false_ne_true)]; exact hK _ (hd ▸ h)
end Go.Proofs.Qxb6609507a
