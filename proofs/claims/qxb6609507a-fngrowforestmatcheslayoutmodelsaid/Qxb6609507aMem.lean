import Derived.Test.Qxb6609507aRows
import Derived.WalkKit
import Derived.ProofKit
import Derived.OpenShut
import Derived.Below
import Derived.Stop.BytesEq
import Derived.Laws.CopyRow
import Derived.Deep.QuietTactic
import Derived.BigQuiet
import Derived.Laws.Cover3
namespace Go.Proofs.Qxb6609507a
set_option linter.unusedSimpArgs false
open Go.ChangeShapes Go.WideShapes Go.ChangeAt Go.RowKit
open Go.Extern.Stop (cell)

theorem hide {p : Prop} (h : p) : Hid p := h
theorem unhide {p : Prop} (h : Hid p) : p := h

/-! ### Memory, block by block -/
def Blk (w : World) (b : Nat) (cs : List Value) (e : TypeId) : Prop := w.heap[b]? = some (.cells cs.toArray e (0, 0))

theorem Blk.lt {w : World} {b : Nat} {cs : List Value} {e : TypeId} (h : Blk w b cs e) : b < w.heap.size := (Array.getElem?_eq_some_iff.1 h).1
theorem Blk.cell {w : World} {b : Nat} {cs : List Value} {e : TypeId} (h : Blk w b cs e) (o : Nat) : w.cell? ⟨b, o, none⟩ = cs[o]? := by
  unfold Blk at h; simp [World.cell?, h]
theorem Blk.below {w w' : World} {B b : Nat} {cs : List Value} {e : TypeId} (h : Blk w b cs e) (hb : Below B w w') (hlt : b < B) : Blk w' b cs e := (hb.block b hlt).trans h
theorem Blk.alloc {w : World} (cs : List Value) (e : TypeId) : Blk (w.alloc (.cells cs.toArray e)) w.heap.size cs e := heap_alloc_new w _
theorem Blk.setRow {w : World} {b : Nat} {cs : List Value} {e : TypeId} (h : Blk w b cs e) (cs' : List Value) : Blk (w.setRow b cs'.toArray) b cs' e := setRow_heap w b _ _ e _ h

theorem cell_lt {w : World} {b o : Nat} {v : Value} (h : w.cell? ⟨b, o, none⟩ = some v) : b < w.heap.size := by
  by_cases hb : b < w.heap.size
  · exact hb
  · simp [World.cell?, Array.getElem?_eq_none (Nat.le_of_not_lt hb)] at h

theorem add_at (b o n : Nat) : (⟨b, o, none⟩ : Addr).add n = ⟨b, o + n, none⟩ := by
  unfold Addr.add; split <;> simp_all

/-! ### The walk's laws on wide loads and stores -/
theorem wpl_ok {P : Program} {ops : Array Oper} {Q : Exit → Act → World → Prop} {rest : List Oper} {o : Oper} {a : Act} {w w' : World} {v : Value}
    (hg : o.guard = none) (hr : (execOp a.eval o).run P w = .ok (.value v) w') (h : wpList P ops Q rest (a.put o.dst v) w') : wpList P ops Q (o :: rest) a w := by
  refine wpList_plain hg fun K hK => ?_
  unfold Oper.wp
  rw [hr]
  exact hK _ _ h

def aggB (P : Program) (t : TypeId) : Bool := match P.underlying t with | some (.struct _) | some (.array _ _) => true | _ => false
theorem run_isAgg {P : Program} {t : TypeId} (h : aggB P t = true) (w : World) : (isAgg t).run P w = .ok true w := by
  unfold aggB at h
  unfold isAgg
  split at h
  · rename_i hd; simp [run_underlying hd]
  · rename_i hd; simp [run_underlying hd]
  · simp at h

theorem run_sizeOf {P : Program} {t n : Nat} (h : (P.info? t).map (·.size) = some n) (w : World) : (sizeOf t).run P w = .ok n w := by
  obtain ⟨i, hi, rfl⟩ := Option.map_eq_some_iff.1 h
  simp [sizeOf, typeInfo, hi]

theorem run_loadVar_agg {P : Program} {w : World} {t n b o : Nat} (hagg : aggB P t = true)
    (hn : (P.info? t).map (·.size) = some n) (cs : List Value) (hl : cs.length = n) (hc : ∀ j v, cs[j]? = some v → w.cell? ⟨b, o + j, none⟩ = some v) :
    (loadVar t ⟨b, o, none⟩).run P w = .ok (.agg cs.toArray) w := by
  subst hl
  have := run_loadCells_list (P := P) w ⟨b, o, none⟩ cs (fun j v hv => by rw [add_at]; exact hc j v hv)
  simp [loadVar, run_isAgg hagg, run_sizeOf hn, this]

theorem wpl_load {P : Program} {ops : Array Oper} {Q : Exit → Act → World → Prop} {rest : List Oper} {a : Act} {w : World} {d : Option Tmp} {t ty : TypeId} {p : Operand} {pos : String} {af : Array Edge} {n b o : Nat}
    (hp : a.eval p = .pointer (some ⟨b, o, none⟩)) (hagg : aggB P t = true)
    (hn : (P.info? t).map (·.size) = some n) (cs : List Value) (hl : cs.length = n) (hc : ∀ j v, cs[j]? = some v → w.cell? ⟨b, o + j, none⟩ = some v)
    (h : wpList P ops Q rest (a.put d (.agg cs.toArray)) w) : wpList P ops Q ({ dst := d, op := .load t p, type := ty, pos := pos, after := af, guard := none } :: rest) a w := by
  refine wpl_ok rfl (w' := w) (v := .agg cs.toArray) ?_ h
  have := run_loadVar_agg (P := P) hagg hn cs hl hc
  simp [execOp, hp, Instr.loadAt, Instr.sureAddr, this]

theorem wpl_store {P : Program} {ops : Array Oper} {Q : Exit → Act → World → Prop} {rest : List Oper} {a : Act} {w : World} {d : Option Tmp} {t ty e : TypeId} {p v : Operand} {pos : String} {af : Array Edge} {n b o : Nat}
    (hp : a.eval p = .pointer (some ⟨b, o, none⟩)) (cs : List Value) (hv : a.eval v = .agg cs.toArray)
    (hn : (P.info? t).map (·.size) = some n) (hl : cs.length = n) (cur : List Value) (hb : Blk w b cur e) (hfit : o + n ≤ cur.length) (h1 : ∀ v ∈ cs, v.oneCell' = true)
    (h : ∀ w', Blk w' b (cur.take o ++ cs ++ cur.drop (o + n)) e → w.grownBy w' (some b) → wpList P ops Q rest (a.put d undef) w') : wpList P ops Q ({ dst := d, op := .store t p v, type := ty, pos := pos, after := af, guard := none } :: rest) a w := by
  subst hl
  refine wpList_plain rfl fun K hK => ?_
  have hst := run_storeCells_at P b o e cs 0 cur.toArray w hb (by simpa using hfit) h1
  have hrun : (storeVar t ⟨b, o, none⟩ (.agg cs.toArray)).run P w = .ok () (w.setRow b (cur.take o ++ cs ++ cur.drop (o + cs.length)).toArray) := by
    simp [storeVar, Value.cells, run_sizeOf hn, hst]
  unfold Oper.wp
  simp [execOp, hp, hv, Instr.storeAt, Instr.sureAddr, hrun, Oper.upon]
  refine hK _ _ (h _ (by simpa using hb.setRow (cur.take o ++ cs ++ cur.drop (o + cs.length))) ⟨rfl, rfl, rfl, by simp [World.setRow], fun k _ hk => setRow_other w b k _ (fun e => hk (by simp [e]))⟩)

/-- Guards: each says 'the next operation is this one', and nothing more. -/
theorem gd_load {P : Program} {ops : Array Oper} {Q : Exit → Act → World → Prop} {rest : List Oper} {a : Act} {w : World} {d : Option Tmp} {ty : TypeId} {pos : String} {af : Array Edge} (t : TypeId) (p : Operand)
    (h : wpList P ops Q ({ dst := d, op := .load t p, type := ty, pos := pos, after := af, guard := none } :: rest) a w) : wpList P ops Q ({ dst := d, op := .load t p, type := ty, pos := pos, after := af, guard := none } :: rest) a w := h
theorem gd_store {P : Program} {ops : Array Oper} {Q : Exit → Act → World → Prop} {rest : List Oper} {a : Act} {w : World} {d : Option Tmp} {ty : TypeId} {pos : String} {af : Array Edge} (t : TypeId) (p v : Operand)
    (h : wpList P ops Q ({ dst := d, op := .store t p v, type := ty, pos := pos, after := af, guard := none } :: rest) a w) : wpList P ops Q ({ dst := d, op := .store t p v, type := ty, pos := pos, after := af, guard := none } :: rest) a w := h
theorem gd_build {P : Program} {ops : Array Oper} {Q : Exit → Act → World → Prop} {rest : List Oper} {a : Act} {w : World} {d : Option Tmp} {ty : TypeId} {pos : String} {af : Array Edge} (t : TypeId) (p : Array (Nat × Operand))
    (h : wpList P ops Q ({ dst := d, op := .build t p, type := ty, pos := pos, after := af, guard := none } :: rest) a w) : wpList P ops Q ({ dst := d, op := .build t p, type := ty, pos := pos, after := af, guard := none } :: rest) a w := h

theorem ownsRow_blk {w : World} {base e size g n : Nat} {xs : List Value} (h : w.ownsRow base e size (.slice (some ⟨g, 0, none⟩) n n) n xs) : Blk w g xs e := by
  rcases h.2 with ⟨h', _⟩ | ⟨g', cap', cur, h', _, hg, _, _, hcs, htake⟩
  · simp at h'
  · simp only [Value.slice.injEq, Option.some.injEq, Addr.mk.injEq, and_true, true_and] at h'
    obtain ⟨rfl, rfl⟩ := h'
    rw [List.take_of_length_le (by simp [hcs])] at htake
    unfold Blk
    rw [hg, ← htake]

theorem wpl_build {P : Program} {ops : Array Oper} {Q : Exit → Act → World → Prop} {rest : List Oper} {a : Act} {w : World} {d : Option Tmp} {t ty : TypeId} {parts : Array (Nat × Operand)} {pos : String} {af : Array Edge}
    (vals : List (Nat × Value)) (hv : parts.toList.map (fun x => (x.1, a.eval x.2)) = vals) (cells : List Value) (hb : P.built t vals = some cells.toArray)
    (h : wpList P ops Q rest (a.put d (.agg cells.toArray)) w) : wpList P ops Q ({ dst := d, op := .build t parts, type := ty, pos := pos, after := af, guard := none } :: rest) a w := by
  refine wpl_ok rfl (w' := w) (v := .agg cells.toArray) ?_ h
  have := run_build (P := P) w t (parts.map (fun x => (x.1, a.eval x.2))) cells.toArray (by rw [Array.toList_map, hv]; exact hb)
  simp only [execOp, Sem.run_bind, this, Result.andThen_ok, Sem.run_pure]

/-- copy(dst, src): the whole of a fresh row is filled. -/
theorem wpl_copy {P : Program} {ops : Array Oper} {Q : Exit → Act → World → Prop} {rest : List Oper} {a : Act} {w : World} {d : Option Tmp} {ty t elem e : TypeId} {x y : Operand} {pos : String} {af : Array Edge} {size n c g : Nat} {ad : Addr}
    (hx : a.eval x = .slice (some ⟨g, 0, none⟩) n n) (hy : a.eval y = .slice (some ad) n c) (hu : P.underlying t = some (.slice elem)) (hs : (P.info? elem).map (·.size) = some size)
    (cur cs : List Value) (hb : Blk w g cur e) (hcl : cs.length = n * size) (hcu : cur.length = n * size) (hsrc : ∀ j v, cs[j]? = some v → w.cell? (ad.add j) = some v) (h1 : ∀ v ∈ cs, v.oneCell' = true)
    (h : ∀ w', Blk w' g cs e → w.grownBy w' (some g) → wpList P ops Q rest (a.put d (goInt n)) w') :
    wpList P ops Q ({ dst := d, op := .call { callee := .builtin .copy, args := #[x, y], argTypes := #[t, t] }, type := ty, pos := pos, after := af, guard := none } :: rest) a w := by
  have hl := run_loadCells_list (P := P) w ad cs hsrc
  have hst := run_storeCells_at P g 0 e cs 0 cur.toArray w hb (by simp [hcl, hcu]) h1
  rw [hcl] at hl
  have hrun : (Builtin.copy_ #[t, t] ty #[.slice (some ⟨g, 0, none⟩) n n, .slice (some ad) n c]).run P w = .ok (goInt n) (w.setRow g cs.toArray) := by
    simp [Builtin.copy_, run_underlying hu, Builtin.lenOf, Builtin.firstCells, run_sizeOf hs, hl, hst, hcl]
    rw [List.drop_eq_nil_of_le (by omega), List.append_nil]
  refine wpl_ok rfl (w' := w.setRow g cs.toArray) (v := goInt n) ?_ (h _ (hb.setRow cs) ⟨rfl, rfl, rfl, by simp [World.setRow], fun k _ hk => setRow_other w g k _ (fun e => hk (by simp [e]))⟩)
  simp [execOp, resolve, invoke, builtin, hx, hy, hrun]
theorem gd_copy {P : Program} {ops : Array Oper} {Q : Exit → Act → World → Prop} {rest : List Oper} {a : Act} {w : World} {d : Option Tmp} {ty t t' : TypeId} {x y : Operand} {pos : String} {af : Array Edge}
    (h : wpList P ops Q ({ dst := d, op := .call { callee := .builtin .copy, args := #[x, y], argTypes := #[t, t'] }, type := ty, pos := pos, after := af, guard := none } :: rest) a w) :
    wpList P ops Q ({ dst := d, op := .call { callee := .builtin .copy, args := #[x, y], argTypes := #[t, t'] }, type := ty, pos := pos, after := af, guard := none } :: rest) a w := h

/-! ### A region that draws its order and only reads -/
theorem wq_ok {P : Program} {ops : Array Oper} {C : World → Prop} {Q : Act → Prop} {rest : List Oper} {o : Oper} {a : Act} (hg : o.guard = none) (v : Value)
    (hr : ∀ w, C w → (execOp a.eval o).run P w = .ok (.value v) w) (h : wpQuiet P ops C Q rest (a.put o.dst v)) : wpQuiet P ops C Q (o :: rest) a := by
  refine wpQuiet_step fun K hK => ?_
  simp only [Region.wanted, hg, if_true]
  refine ⟨v, fun w hw => ?_, hK _ h⟩
  unfold Oper.quietAt
  rw [hr w hw]
  exact ⟨rfl, rfl⟩
theorem wq_load {P : Program} {ops : Array Oper} {C : World → Prop} {Q : Act → Prop} {rest : List Oper} {a : Act} {d : Option Tmp} {t ty : TypeId} {p : Operand} {pos : String} {af : Array Edge} {n b o : Nat}
    (hp : a.eval p = .pointer (some ⟨b, o, none⟩)) (hagg : aggB P t = true) (hn : (P.info? t).map (·.size) = some n) (cs : List Value) (hl : cs.length = n) (hc : ∀ w, C w → ∀ j v, cs[j]? = some v → w.cell? ⟨b, o + j, none⟩ = some v)
    (h : wpQuiet P ops C Q rest (a.put d (.agg cs.toArray))) : wpQuiet P ops C Q ({ dst := d, op := .load t p, type := ty, pos := pos, after := af, guard := none } :: rest) a := by
  refine wq_ok rfl (.agg cs.toArray) (fun w hw => ?_) h
  have := run_loadVar_agg (P := P) hagg hn cs hl (hc w hw)
  simp [execOp, hp, Instr.loadAt, Instr.sureAddr, this]
theorem gq_load {P : Program} {ops : Array Oper} {C : World → Prop} {Q : Act → Prop} {rest : List Oper} {a : Act} {d : Option Tmp} {ty : TypeId} {pos : String} {af : Array Edge} (t : TypeId) (p : Operand)
    (h : wpQuiet P ops C Q ({ dst := d, op := .load t p, type := ty, pos := pos, after := af, guard := none } :: rest) a) : wpQuiet P ops C Q ({ dst := d, op := .load t p, type := ty, pos := pos, after := af, guard := none } :: rest) a := h

/-! ### Lists of equal pieces -/
theorem piece {α β : Type} (f : α → List β) (n : Nat) : ∀ (xs : List α), (∀ x ∈ xs, (f x).length = n) → ∀ (k : Nat) (hk : k < xs.length) (j : Nat), j < n → (xs.flatMap f)[k * n + j]? = (f xs[k])[j]?
  | [], _, k, hk, _, _ => by simp at hk
  | x :: xs, h, 0, _, j, hj => by
    have := h x (by simp)
    simp [List.flatMap_cons, List.getElem?_append_left (show j < (f x).length by omega)]
  | x :: xs, h, k + 1, hk, j, hj => by
    have hx := h x (by simp)
    have ih := piece f n xs (fun y hy => h y (by simp [hy])) k (by simpa using hk) j hj
    rw [List.flatMap_cons, List.getElem?_append_right (by rw [hx, Nat.add_mul]; omega), hx, show (k + 1) * n + j - n = k * n + j by rw [Nat.add_mul]; omega, ih]
    simp

theorem flat_length {α β : Type} (f : α → List β) (n : Nat) : ∀ (xs : List α), (∀ x ∈ xs, (f x).length = n) → (xs.flatMap f).length = xs.length * n
  | [], _ => by simp
  | x :: xs, h => by
    have hx := h x (by simp)
    have ih := flat_length f n xs (fun y hy => h y (by simp [hy]))
    rw [List.flatMap_cons, List.length_append, hx, ih, List.length_cons, Nat.add_mul]; omega
theorem made_flat (z : List Value) (hz : 0 < z.length) (n : Nat) : (madeCells z.toArray (n * z.length)).toList = (List.replicate n z).flatMap (fun x => x) := by
  apply List.ext_getElem?
  intro i
  by_cases hi : i < n * z.length
  · have hk : i / z.length < n := Nat.div_lt_of_lt_mul (by rw [Nat.mul_comm]; exact hi)
    have hm : i % z.length < z.length := Nat.mod_lt _ hz
    have := piece (fun x : List Value => x) z.length (List.replicate n z) (fun x hx => by rw [List.eq_of_mem_replicate hx]) (i / z.length) (by simpa using hk) (i % z.length) hm
    rw [show i / z.length * z.length + i % z.length = i by rw [Nat.mul_comm]; exact Nat.div_add_mod i z.length] at this
    rw [this]
    simp [madeCells, hi, hm]
  · have : ((List.replicate n z).flatMap (fun x => x)).length = n * z.length := by
      rw [flat_length (fun x : List Value => x) z.length _ (fun x hx => by rw [List.eq_of_mem_replicate hx])]; simp
    rw [List.getElem?_eq_none (by simp [madeCells]; omega), List.getElem?_eq_none (by omega)]
end Go.Proofs.Qxb6609507a
