import Derived.Test.Qxb6609507aForest1
import Derived.Test.Qxb6609507aAcc3
namespace Go.Proofs.Qxb6609507a
set_option linter.unusedVariables false
set_option linter.unusedSimpArgs false
open Go.ChangeShapes Go.WideShapes Go.ChangeAt Go.RowKit
section
variable {d : Option Tmp} {ty : TypeId} {pos : String} {af : Array Edge} {g : Option (Nat × Bool)} {a : Act} {x y : Operand}
theorem exec_loadAgg {P : Program} {t n b o : Nat} {w : World} (hp : a.eval x = .pointer (some ⟨b, o, none⟩)) (hagg : aggB P t = true) (hn : (P.info? t).map (·.size) = some n) (cs : List Value) (hl : cs.length = n) (hc : ∀ j v, cs[j]? = some v → w.cell? ⟨b, o + j, none⟩ = some v) :
    (execOp a.eval { dst := d, op := .load t x, type := ty, pos := pos, after := af, guard := g }).run P w = .ok (.value (.agg cs.toArray)) w := by
  have := run_loadVar_agg (P := P) hagg hn cs hl hc
  simp [execOp, hp, Instr.loadAt, Instr.sureAddr, this]
theorem exec_conv32 {n : Nat} (hx : a.eval x = .int .i64 n) (hn : n ≤ 2147483647) (w : World) :
    (execOp a.eval { dst := d, op := .convert 3 21 x, type := ty, pos := pos, after := af, guard := g }).run Try.prog w = .ok (.value (.int .i32 n)) w := by
  simp only [execOp, hx]
  simp [go_sem, run_underlying Try.underlying3, run_underlying Try.underlying21]
  rw [IntKind.wrap_i32]; omega
end
end Go.Proofs.Qxb6609507a
