import Derived.Test.Qxb6609507aReg2
import Derived.Test.Qxb6609507aSets
import Derived.OwnWalk
import Derived.Maps.AppendAt
import Derived.Great.BuildSlice
namespace Go.Proofs.Qxb6609507a
set_option linter.unusedVariables false
set_option linter.unusedSimpArgs false
open Go.ChangeShapes Go.WideShapes Go.ChangeAt Go.RowKit

theorem Upd.ofGrown {w w' : World} {row : Option Nat} {bs : List Nat} (h : w.grownBy w' row) (hr : ∀ b, row = some b → b ∈ bs) : Upd bs w w' :=
  ⟨h.size, fun b hb hn => h.block b hb (fun e => hn (hr b e.symm)), fun B hB hs => (Below.refl B w).grown h hs (fun b e => hB b (hr b e))⟩
theorem mixed : Try.prog.follows .mixedOrders = true := by kernel_rfl

section
variable {d : Option Tmp} {ty : TypeId} {pos : String} {af : Array Edge} {g : Option (Nat × Bool)} {a : Act} {w : World} {K : Act → World → Prop} {Q : Exit → Act → World → Prop}

/-- make of n elements of several cells, or of one. -/
theorem wp_makeN {P : Program} {t e : TypeId} {i : TypeInfo} {zc : List Value} {z : Value} (hz0 : 0 < zc.length) {l : Operand} {n : Nat} (hu : P.underlying t = some (.slice e)) (hi : P.info? e = some i) (hz : i.zero = some z) (hzc : z.cells = zc.toArray) (hs : i.size = zc.length)
    (hl : a.eval l = .int .i64 n) (hb : i.bytes * n ≤ 281474976710656) (hm : n ≤ maxLen)
    (h : ∀ w', Blk w' w.heap.size ((List.replicate n zc).flatMap (fun x => x)) e → Upd [] w w' → w'.heap.size = w.heap.size + 1 ∨ True → K (a.put d (.slice (some ⟨w.heap.size, 0, none⟩) n n)) w') :
    Oper.wp P { dst := d, op := .makeSlice t l l, type := ty, pos := pos, after := af, guard := g } a w K Q := by
  obtain ⟨w', hrun, r1, r2⟩ := run_make_full (P := P) w w.heap.size t e i z zc.length hu hi hz hs .i64 .i64 n hb hm (Nat.le_refl _)
  unfold Oper.wp
  simp [execOp, hl, hrun, Result.andThen]
  refine h w' ?_ (Upd.ofGrown r2 (fun b e => by cases e)) (.inr trivial)
  have := ownsRow_blk r1
  rw [hzc, made_flat zc hz0 n] at this
  exact this
theorem replicate_flat1 (n : Nat) (z : Value) : (List.replicate n [z]).flatMap (fun x => x) = List.replicate n z := by
  induction n with
  | zero => rfl
  | succ n ih => rw [List.replicate_succ, List.flatMap_cons, ih, List.replicate_succ]; rfl

/-- '[]T{x}', one element of one cell. -/
theorem wp_build1 {P : Program} {t e : TypeId} {ie : TypeInfo} {z : Value} {x : Operand} {v : Value} (hu : P.underlying t = some (.slice e)) (hie : P.info? e = some ie) (hz : ie.zero = some z) (hs : ie.size = 1) (hx : a.eval x = v) (h1 : v.cells = #[v])
    (h : K (a.put d (.slice (some ⟨w.heap.size, 0, none⟩) 1 1)) (w.alloc (.cells #[v] e))) :
    Oper.wp P { dst := d, op := .buildSlice t 1 #[(0, x)], type := ty, pos := pos, after := af, guard := g } a w K Q := by
  refine wp_buildSlice t e 1 #[(0, x)] rfl #[v] ie z hu hie hz (by rw [hs]; omega) (by rw [hs]; omega) ?_ h
  rw [hs]
  simp [Instr.fill, hx, h1]
  have : Array.range 1 = #[0] := rfl
  rw [this]; simp
end

/-! ### newIndexSet -/
theorem div_lt_of {n : Nat} (h : ¬ (n + 63) / 64 ≤ 1) : (n + 63) / 64 < n := by omega
/-- The rows of an empty set of the numbers below n. -/
def emptyRows (n : Nat) : List (List Nat) :=
  if h : (n + 63) / 64 ≤ 1 then [List.replicate (max ((n + 63) / 64) 1) 0] else List.replicate (max ((n + 63) / 64) 1) 0 :: emptyRows ((n + 63) / 64)
termination_by n
decreasing_by exact div_lt_of h

theorem info54 : (Try.prog.info? 54).map (fun i => (i.zero, i.size, i.bytes)) = some (some (.slice none 0 0), 1, 24) := by kernel_rfl
theorem info55 : (Try.prog.info? 55).map (fun i => (i.zero, i.size, i.bytes)) = some (some (.int .u64 0), 1, 8) := by kernel_rfl
theorem fo79_0 : fieldOff Try.prog 79 0 = some 0 := by kernel_rfl
theorem one49 : oneB Try.prog 49 = true := by kernel_rfl
theorem size49 : (Try.prog.info? 49).map (·.size) = some 1 := by kernel_rfl
theorem agg79 : aggB Try.prog 79 = true := by kernel_rfl
theorem size79 : (Try.prog.info? 79).map (·.size) = some 3 := by kernel_rfl

theorem exec_max {d : Option Tmp} {ty : TypeId} {pos : String} {af : Array Edge} {g : Option (Nat × Bool)} {a : Act} {x : Operand} {n : Nat} (hx : a.eval x = .int .i64 n) (w : World) :
    (execOp a.eval { dst := d, op := .call { callee := .builtin .max, args := #[x, .const (.int .i64 1)], argTypes := #[3, 3] }, type := ty, pos := pos, after := af, guard := g }).run Try.prog w = .ok (.value (.int .i64 ((max n 1 : Nat) : Int))) w := by
  have he : a.eval (.const (.int .i64 1)) = .int .i64 1 := rfl
  simp only [execOp, resolve, invoke, builtin, Sem.run_bind, Sem.run_pure, Result.andThen_ok, List.map_toArray, List.map_cons, List.map_nil, hx, he, run_max_int2]
  have : (if (1 : Int) > (n : Int) then (1 : Int) else (n : Int)) = ((max n 1 : Nat) : Int) := by split <;> omega
  rw [this]
end Go.Proofs.Qxb6609507a
