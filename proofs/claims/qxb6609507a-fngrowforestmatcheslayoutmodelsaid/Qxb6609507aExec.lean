import Derived.Test.Qxb6609507aReg
namespace Go.Proofs.Qxb6609507a
set_option linter.unusedVariables false
set_option linter.unusedSimpArgs false
open Go.ChangeShapes Go.WideShapes Go.ChangeAt Go.RowKit

/-! ### One operation, run: addresses, loads, comparisons -/
section
variable {P : Program} {d : Option Tmp} {ty : TypeId} {pos : String} {af : Array Edge} {g : Option (Nat × Bool)} {a : Act}

/-- The cells of an element of a slice type. -/
def elemSize (P : Program) (t : TypeId) : Option Nat := match P.underlying t with | some (.slice e) => (P.info? e).map (·.size) | _ => none
/-- The place of a field that has cells. -/
def fieldOff (P : Program) (t f : Nat) : Option Nat := match P.underlying t with
  | some (.struct fs) => (fs[f]?).bind fun fd => (P.info? fd.type).bind fun i => if i.size = 0 then none else some fd.offset
  | _ => none
/-- A type whose values lie in one cell. -/
def oneB (P : Program) (t : TypeId) : Bool := match P.underlying t with | some (.struct _) | some (.array _ _) | none => false | _ => true

theorem exec_index {t size : Nat} (hs : elemSize P t = some size) {x i : Operand} {b o len cap k : Nat} (hx : a.eval x = .slice (some ⟨b, o, none⟩) len cap) (hi : a.eval i = .int .i64 k) (hk : k < len) (w : World) :
    (execOp a.eval { dst := d, op := .indexAddr t x i, type := ty, pos := pos, after := af, guard := g }).run P w = .ok (.value (.pointer (some ⟨b, o + k * size, none⟩))) w := by
  unfold elemSize at hs
  split at hs
  · rename_i e hu
    have hk' : (k : Int) < (len : Int) := by omega
    simp [execOp, hx, hi, Instr.indexAt, asIntOf, run_underlying hu, run_sizeOf hs, hk, add_at]
  · cases hs

theorem exec_field {t f off : Nat} (hf : fieldOff P t f = some off) {x : Operand} {b o : Nat} (hx : a.eval x = .pointer (some ⟨b, o, none⟩)) (w : World) :
    (execOp a.eval { dst := d, op := .fieldAddr t x f, type := ty, pos := pos, after := af, guard := g }).run P w = .ok (.value (.pointer (some ⟨b, o + off, none⟩))) w := by
  unfold fieldOff at hf
  split at hf
  · rename_i fs hu
    obtain ⟨fd, hfd, hf⟩ := Option.bind_eq_some_iff.1 hf
    obtain ⟨i, hi, hf⟩ := Option.bind_eq_some_iff.1 hf
    split at hf
    · cases hf
    · rename_i hz
      have : off = fd.offset := by simpa using hf.symm
      subst this
      simp [execOp, hx, Instr.fieldAt, run_underlying hu, hfd, Instr.sureAddr, fieldPlace, sizeOf, typeInfo, hi, hz, add_at]
  · cases hf

theorem exec_load1 {t : Nat} (h1 : oneB P t = true) {x : Operand} {b o : Nat} {v : Value} {w : World} (hx : a.eval x = .pointer (some ⟨b, o, none⟩)) (hc : w.cell? ⟨b, o, none⟩ = some v) :
    (execOp a.eval { dst := d, op := .load t x, type := ty, pos := pos, after := af, guard := g }).run P w = .ok (.value v) w := by
  have hagg : (isAgg t).run P w = .ok false w := by
    unfold oneB at h1
    unfold isAgg
    cases hu : P.underlying t with
    | none => simp [hu] at h1
    | some dsc => cases dsc <;> simp [hu] at h1 <;> simp [run_underlying hu]
  simp [execOp, hx, Instr.loadAt, Instr.sureAddr, loadVar, hagg, hc]

/-- A store of one cell into a block that is known whole. -/
theorem wp_store1 {t : Nat} (hn : (P.info? t).map (·.size) = some 1) {p v : Operand} {b o : Nat} {val : Value} {w : World} {cur : List Value} {e : TypeId} {K : Act → World → Prop} {Q : Exit → Act → World → Prop}
    (hp : a.eval p = .pointer (some ⟨b, o, none⟩)) (hv : a.eval v = val) (h1 : val.oneCell' = true) (hc1 : val.cells = #[val]) (hb : Blk w b cur e) (ho : o < cur.length)
    (h : ∀ w', Blk w' b (cur.set o val) e → w.grownBy w' (some b) → K (a.put d undef) w') :
    Oper.wp P { dst := d, op := .store t p v, type := ty, pos := pos, after := af, guard := g } a w K Q := by
  have hst := run_storeCells_at P b o e [val] 0 cur.toArray w hb (by simp; omega) (by simpa using h1)
  have hrun : (storeVar t ⟨b, o, none⟩ val).run P w = .ok () (w.setRow b (cur.take o ++ [val] ++ cur.drop (o + 1)).toArray) := by
    simp [storeVar, hc1, run_sizeOf hn, hst]
  have hset : cur.take o ++ [val] ++ cur.drop (o + 1) = cur.set o val := by rw [List.set_eq_take_append_cons_drop]; simp [ho]
  rw [hset] at hrun
  unfold Oper.wp
  simp [execOp, hp, hv, Instr.storeAt, Instr.sureAddr, hrun, Oper.upon]
  exact h _ (hb.setRow _) ⟨rfl, rfl, rfl, by simp [World.setRow], fun k _ hk => setRow_other w b k _ (fun e => hk (by simp [e]))⟩
end
end Go.Proofs.Qxb6609507a
