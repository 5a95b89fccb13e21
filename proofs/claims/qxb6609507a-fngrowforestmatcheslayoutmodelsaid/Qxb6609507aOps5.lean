import Derived.Test.Qxb6609507aForest4
namespace Go.Proofs.Qxb6609507a
set_option linter.unusedVariables false
set_option linter.unusedSimpArgs false
open Go.ChangeShapes Go.WideShapes Go.ChangeAt Go.RowKit
section
variable {d : Option Tmp} {ty t' : TypeId} {pos : String} {af : Array Edge} {g : Option (Nat × Bool)} {a : Act} {x y : Operand}
theorem exec_len {t n cap : Nat} {ad : Option Addr} (hu : Try.prog.underlying t = some (.slice (Try.prog.elem t))) (hx : a.eval x = .slice ad n cap) (w : World) :
    (execOp a.eval { dst := d, op := .call { callee := .builtin .len, args := #[x], argTypes := #[t] }, type := ty, pos := pos, after := af, guard := g }).run Try.prog w = .ok (.value (.int .i64 n)) w := by
  simp only [execOp, resolve, invoke, builtin, Sem.run_bind, Sem.run_pure, Result.andThen_ok, List.map_toArray, List.map_cons, List.map_nil, hx]
  rw [run_len_slice _ t ty ad n cap hu]
  rfl
/-- '[]T{x}', one element of several cells. -/
theorem wp_buildA {P : Program} {t e : TypeId} {ie : TypeInfo} {z : Value} {K : Act → World → Prop} {Q : Exit → Act → World → Prop} {w : World} (cs : List Value) (hc : 0 < cs.length) (hc2 : cs.length ≤ 1000) (hu : P.underlying t = some (.slice e)) (hie : P.info? e = some ie) (hz : ie.zero = some z) (hs : ie.size = cs.length) (hx : a.eval x = .agg cs.toArray)
    (hfill : Instr.fill (fun i => some (i * cs.length, cs.length)) (Array.map (fun x => z.cells[x % z.cells.size]!) (Array.range (1 * cs.length))) [(0, .agg cs.toArray)] = some cs.toArray)
    (h : K (a.put d (.slice (some ⟨w.heap.size, 0, none⟩) 1 1)) (w.alloc (.cells cs.toArray e))) :
    Oper.wp P { dst := d, op := .buildSlice t 1 #[(0, x)], type := ty, pos := pos, after := af, guard := g } a w K Q := by
  refine wp_buildSlice t e 1 #[(0, x)] rfl cs.toArray ie z hu hie hz (by rw [hs]; omega) (by rw [hs]; omega) ?_ h
  rw [hs]
  simp only [List.map_toArray, List.map_cons, List.map_nil, hx]
  exact hfill
end
theorem wpl_store1 {P : Program} {ops : Array Oper} {Q : Exit → Act → World → Prop} {rest : List Oper} {a : Act} {w : World} {d : Option Tmp} {t ty e : TypeId} {p v : Operand} {pos : String} {af : Array Edge} {b o : Nat} {val : Value} {cur : List Value}
    (hn : (P.info? t).map (·.size) = some 1) (hp : a.eval p = .pointer (some ⟨b, o, none⟩)) (hv : a.eval v = val) (h1 : val.oneCell' = true) (hc1 : val.cells = #[val]) (hb : Blk w b cur e) (ho : o < cur.length)
    (h : ∀ w', Blk w' b (cur.set o val) e → w.grownBy w' (some b) → wpList P ops Q rest (a.put d undef) w') : wpList P ops Q ({ dst := d, op := .store t p v, type := ty, pos := pos, after := af, guard := none } :: rest) a w := by
  refine wpList_plain rfl fun K hK => ?_
  exact wp_store1 hn hp hv h1 hc1 hb ho fun w' h2 h3 => hK _ _ (h w' h2 h3)
theorem Upd.fresh {us : List Nat} {w w' : World} (h : Upd us w w') (hn : ∀ u ∈ us, w.heap.size ≤ u) : Upd [] w w' :=
  ⟨h.size, fun b hb _ => h.same b hb (fun hx => by have := hn b hx; omega), fun B _ hs => h.below B (fun b hx => Nat.le_trans hs (hn b hx)) hs⟩
theorem size102 : (Try.prog.info? 102).map (·.size) = some 1 := by kernel_rfl
theorem info104 : (Try.prog.info? 104).map (fun i => (i.zero, i.size, i.bytes)) = some (some (.agg #[.int .i8 0, .int .i32 0, .int .i32 0, .int .i32 0]), 4, 16) := by kernel_rfl
theorem info62 : (Try.prog.info? 62).map (fun i => (i.zero, i.size, i.bytes)) = some (some (.pointer none), 1, 8) := by kernel_rfl
theorem elem82 : Try.prog.underlying 82 = some (.slice (Try.prog.elem 82)) := by kernel_rfl
theorem one80 : oneB Try.prog 80 = true := by kernel_rfl
theorem one81 : oneB Try.prog 81 = true := by kernel_rfl
theorem size80 : (Try.prog.info? 80).map (·.size) = some 1 := by kernel_rfl
theorem size81 : (Try.prog.info? 81).map (·.size) = some 1 := by kernel_rfl
theorem fo88_0 : fieldOff Try.prog 88 0 = some 0 := by kernel_rfl
theorem fo88_1 : fieldOff Try.prog 88 1 = some 1 := by kernel_rfl
theorem fo93_0 : fieldOff Try.prog 93 0 = some 0 := by kernel_rfl
theorem fill104 (a b c d : Value) (h1 : a.cells = #[a]) (h2 : b.cells = #[b]) (h3 : c.cells = #[c]) (h4 : d.cells = #[d]) : Instr.fill (fun i => some (i * 4, 4)) (Array.map (fun x => (Value.agg #[.int .i8 0, .int .i32 0, .int .i32 0, .int .i32 0]).cells[x % (Value.agg #[.int .i8 0, .int .i32 0, .int .i32 0, .int .i32 0]).cells.size]!) (Array.range (1 * 4))) [(0, .agg #[a, b, c, d])] = some #[a, b, c, d] := by
  simp [Instr.fill, Value.cells]
  have : Array.range 4 = #[0, 1, 2, 3] := rfl
  rw [this]; simp
end Go.Proofs.Qxb6609507a
