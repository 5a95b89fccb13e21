import Derived.Test.Qxb6612599aNames
namespace Go.Proofs.Qxb6612599a
set_option linter.unusedVariables false
open Go.ChangeShapes Go.WideShapes Go.ChangeAt Go.RowKit
open Go.Extern.Stop (cell)

theorem mixed : Try.prog.follows .mixedOrders = true := by kernel_rfl
theorem plain7 : plainFn Try.prog 7 = true := by kernel_rfl
theorem plain6 : plainFn Try.prog 6 = true := by kernel_rfl
theorem plain8 : plainFn Try.prog 8 = true := by kernel_rfl

/-- ids[:cut] -/
theorem slice_to (a : Option Addr) (len cap cut : Nat) (h : cut ≤ cap) (w : World) : (Instr.sliceAt 22 (.slice a len cap) none (some (.int .i64 cut)) none).run Try.prog w = .ok (.slice a cut cap) w := by
  have e : (if cap = 0 then a else a.map (·.add (0 * 20))) = a := by
    split
    · rfl
    · cases a <;> simp [Addr.add]
  simp [Instr.sliceAt, run_underlying Try.underlying22, Instr.slice, Instr.sliceBounds, Instr.sliceBound, asIntOf, h, run_sizeOf size23]
  simpa using e
/-- ids[cut:] -/
theorem slice_from (a : Option Addr) (len cap cut : Nat) (h : cut ≤ len) (w : World) : (Instr.sliceAt 22 (.slice a len cap) (some (.int .i64 cut)) none none).run Try.prog w = .ok (.slice (if cap = cut then a else a.map (·.add (cut * 20))) (len - cut) (cap - cut)) w := by
  have h1 : ¬ len < cut := by omega
  simp [Instr.sliceAt, run_underlying Try.underlying22, Instr.slice, Instr.sliceBounds, Instr.sliceBound, asIntOf, h1, run_sizeOf size23]

theorem stays_to {ops : Array Oper} {C : World → Prop} {d : Option Tmp} {x h : Operand} {ty : TypeId} {pos : String} {af : Array Edge} {a : Act} (ao : Option Addr) (len cap cut : Nat) (hx : a.eval x = .slice ao len cap) (hh : a.eval h = .int .i64 cut) (hc : cut ≤ cap) :
    StaysIn Try.prog ops C { dst := d, op := .slice 22 x none (some h) none, type := ty, pos := pos, after := af, guard := none } (.slice ao cut cap) a :=
  stays_ok rfl (fun w' _ => by
    have := slice_to ao len cap cut hc w'
    simp [execOp, hx, hh, this])
theorem stays_from {ops : Array Oper} {C : World → Prop} {d : Option Tmp} {x h : Operand} {ty : TypeId} {pos : String} {af : Array Edge} {a : Act} (ao : Option Addr) (len cap cut : Nat) (ao2 : Option Addr) (h2 : Hid (ao2 = if cap = cut then ao else ao.map (·.add (cut * 20)))) (hx : a.eval x = .slice ao len cap) (hh : a.eval h = .int .i64 cut) (hc : cut ≤ len) :
    StaysIn Try.prog ops C { dst := d, op := .slice 22 x (some h) none none, type := ty, pos := pos, after := af, guard := none } (.slice ao2 (len - cut) (cap - cut)) a :=
  stays_ok rfl (fun w' _ => by
    have := slice_from ao len cap cut hc w'
    rw [h2.out]
    simp [execOp, hx, hh, this])
theorem idsIn_take {w : World} {a : Option Addr} {ids : List (List UInt8)} (h : IdsIn w a ids) (cut : Nat) : IdsIn w a (ids.take cut) := by
  intro k hk
  have hk' : k < ids.length := by simp at hk; omega
  obtain ⟨b, o, ha, hc⟩ := h k hk'
  exact ⟨b, o, ha, by simpa using hc⟩
theorem idsIn_drop {w : World} {a : Option Addr} {ids : List (List UInt8)} (h : IdsIn w a ids) (cut cap : Nat) (hc : ids.length ≤ cap) (ao2 : Option Addr) (h2 : Hid (ao2 = if cap = cut then a else a.map (·.add (cut * 20)))) : IdsIn w ao2 (ids.drop cut) := by
  rw [h2.out]
  intro k hk
  have hk' : cut + k < ids.length := by simp at hk; omega
  obtain ⟨b, o, ha, hcs⟩ := h (cut + k) hk'
  refine ⟨b, o + cut * 20, ?_, ?_⟩
  · rw [if_neg (by omega), ha]; simp [add_at]
  · intro j v hv
    have := hcs j v (by simpa using hv)
    rw [show o + cut * 20 + k * 20 + j = o + (cut + k) * 20 + j by omega]; exact this

theorem exec_to {d : Option Tmp} {x h : Operand} {ty : TypeId} {pos : String} {af : Array Edge} {g : Option (Nat × Bool)} {a : Act} (ao : Option Addr) (len cap cut : Nat) (hx : a.eval x = .slice ao len cap) (hh : a.eval h = .int .i64 cut) (hc : cut ≤ cap) (w : World) :
    (execOp a.eval { dst := d, op := .slice 22 x none (some h) none, type := ty, pos := pos, after := af, guard := g }).run Try.prog w = .ok (.value (.slice ao cut cap)) w := by
  have := slice_to ao len cap cut hc w
  simp [execOp, hx, hh, this]
theorem exec_from {d : Option Tmp} {x h : Operand} {ty : TypeId} {pos : String} {af : Array Edge} {g : Option (Nat × Bool)} {a : Act} (ao : Option Addr) (len cap cut : Nat) (ao2 : Option Addr) (h2 : Hid (ao2 = if cap = cut then ao else ao.map (·.add (cut * 20)))) (hx : a.eval x = .slice ao len cap) (hh : a.eval h = .int .i64 cut) (hc : cut ≤ len) (w : World) :
    (execOp a.eval { dst := d, op := .slice 22 x (some h) none none, type := ty, pos := pos, after := af, guard := g }).run Try.prog w = .ok (.value (.slice ao2 (len - cut) (cap - cut))) w := by
  have := slice_from ao len cap cut hc w
  rw [h2.out]
  simp [execOp, hx, hh, this]
theorem exec_load {d : Option Tmp} {p : Operand} {ty : TypeId} {pos : String} {af : Array Edge} {g : Option (Nat × Bool)} {a : Act} {b : Nat} {id : List UInt8} {w : World} (hp : a.eval p = .pointer (some ⟨b, 0, none⟩)) (hid : id.length = 20) (hc : IdIn w b id) :
    (execOp a.eval { dst := d, op := .load 23 p, type := ty, pos := pos, after := af, guard := g }).run Try.prog w = .ok (.value (.agg (id.map cell).toArray)) w := by
  have := run_loadVar_agg (P := Try.prog) agg23 size23 (id.map cell) (by simp [hid]) hc
  simp [execOp, hp, Instr.loadAt, Instr.sureAddr, this]
theorem exec_eqb {d : Option Tmp} {x y : Operand} {t ty : TypeId} {pos : String} {af : Array Edge} {g : Option (Nat × Bool)} {a : Act} {p q : Bool} (hx : a.eval x = .bool p) (hy : a.eval y = .bool q) (hpq : (p == q) = true) (w : World) :
    (execOp a.eval { dst := d, op := .binOp .eql 4 x y t, type := ty, pos := pos, after := af, guard := g }).run Try.prog w = .ok (.value (.bool true)) w := by
  have h := run_equal_bool w 4 p q Try.underlying4
  rw [hpq] at h
  simp [execOp, hx, hy, binOp, eqGuard, h]
theorem exec_eqi {d : Option Tmp} {x y : Operand} {t u ty : TypeId} {pos : String} {af : Array Edge} {g : Option (Nat × Bool)} {a : Act} {p q : Int} (hx : a.eval x = .int .i64 p) (hy : a.eval y = .int .i64 q) (hpq : p = q) (w : World) :
    (execOp a.eval { dst := d, op := .binOp .eql t x y u, type := ty, pos := pos, after := af, guard := g }).run Try.prog w = .ok (.value (.bool true)) w := by
  subst hpq
  simp [execOp, hx, hy, binOp, eqGuard, Op.intCmp]
theorem exec_geq0 {d : Option Tmp} {x : Operand} {t u ty : TypeId} {pos : String} {af : Array Edge} {g : Option (Nat × Bool)} {a : Act} {p : Int} (hx : a.eval x = .int .i64 p) (w : World) :
    (execOp a.eval { dst := d, op := .binOp .geq t x (.const (.int .i64 0)) u, type := ty, pos := pos, after := af, guard := g }).run Try.prog w = .ok (.value (.bool (decide (0 ≤ p)))) w := by
  have hc : a.eval (.const (.int .i64 0)) = .int .i64 0 := rfl
  simp [execOp, hx, hc, binOp, eqGuard, Op.intCmp]
theorem region_quietC {P : Program} {id : Nat} {Q : Exit → Act → World → Prop} {a : Act} {w : World} {l : List Oper} (C : World → Prop) (hm : P.follows .mixedOrders = true) (hB : Region.lexB .any l.toArray = true) (hC : C w.drew)
    (h : wpQuiet P l.toArray C (fun a' => ∀ w', C w' → Q .normal a' w') l a) : (Code.region id l.toArray true).wp P Q a w :=
  wp_region_quiet (C := C) hm hB hC (by simpa using h)
theorem any_take_succ (ids : List (List UInt8)) (id : List UInt8) (k : Nat) (hk : k < ids.length) : (ids.take (k + 1)).any (· == id) = ((ids.take k).any (· == id) || (ids[k] == id)) := by
  rw [List.take_succ_eq_append_getElem hk, List.any_append]; simp
theorem good_of_below {w w' : World} (h : Below w.heap.size w w') : Good w (.returned (.bool true)) w' := ⟨rfl, h⟩

/-! ### The plain law -/
theorem idx_cases (ids : List (List UInt8)) (id : List UInt8) : (idx ids id = -1 ∧ ∀ x ∈ ids, x ≠ id) ∨ ∃ k : Nat, ∃ hk : k < ids.length, idx ids id = k ∧ ids[k] = id ∧ ∀ j (hj : j < k), ids[j]'(by omega) ≠ id := by
  cases h : ids.findIdx? (· == id) with
  | none =>
    left
    rw [List.findIdx?_eq_none_iff] at h
    exact ⟨by unfold idx; rw [List.findIdx?_eq_none_iff.2 h], fun x hx => by simpa using h x hx⟩
  | some k =>
    right
    have h2 := h
    rw [List.findIdx?_eq_some_iff_getElem] at h2
    obtain ⟨hlt, heq, hmin⟩ := h2
    exact ⟨k, hlt, by simp [idx, h], by simpa using heq, fun j hj => by simpa using hmin j hj⟩
theorem idx_names (ids : List (List UInt8)) (id : List UInt8) : idx ids id = -1 ∨ ∃ k : Nat, ∃ hk : k < ids.length, idx ids id = k ∧ ids[k] = id := by
  rcases idx_cases ids id with ⟨h, _⟩ | ⟨k, hk, h1, h2, _⟩
  · exact .inl h
  · exact .inr ⟨k, hk, h1, h2⟩
theorem idx_lt (ids : List (List UInt8)) (id : List UInt8) : -1 ≤ idx ids id ∧ idx ids id < ids.length := by
  rcases idx_names ids id with h | ⟨k, hk, h, _⟩ <;> omega
/-- The first index across any cut. -/
theorem idx_cut (ids : List (List UInt8)) (id : List UInt8) (cut : Nat) (hc : cut ≤ ids.length) :
    idx ids id = if 0 ≤ idx (ids.take cut) id then idx (ids.take cut) id else if 0 ≤ idx (ids.drop cut) id then (cut : Int) + idx (ids.drop cut) id else -1 := by
  rcases idx_cases (ids.take cut) id with ⟨h1, h2⟩ | ⟨k, hk, h1, h2, h3⟩
  · rw [h1, if_neg (by omega)]
    rcases idx_cases (ids.drop cut) id with ⟨g1, g2⟩ | ⟨k, hk, g1, g2, g3⟩
    · rw [g1, if_neg (by omega)]
      refine idx_miss fun j hj => ?_
      by_cases hjc : j < cut
      · exact h2 _ (by rw [List.mem_take_iff_getElem]; exact ⟨j, by omega, rfl⟩)
      · have := g2 ids[j] (by rw [List.mem_drop_iff_getElem]; exact ⟨j - cut, by omega, by simp [show cut + (j - cut) = j by omega]⟩)
        exact this
    · rw [g1, if_pos (by omega)]
      have hk' : cut + k < ids.length := by simp at hk; omega
      have := idx_hit (ids := ids) (id := id) hk' (by simpa using g2) (fun j hj => by
        by_cases hjc : j < cut
        · exact h2 _ (by rw [List.mem_take_iff_getElem]; exact ⟨j, by omega, rfl⟩)
        · have := g3 (j - cut) (by omega)
          simpa [show cut + (j - cut) = j by omega] using this)
      rw [this]; push_cast; rfl
  · rw [h1, if_pos (by omega)]
    have hk' : k < ids.length := by simp at hk; omega
    exact idx_hit (ids := ids) (id := id) hk' (by simpa using h2) (fun j hj => by simpa using h3 j hj)
theorem idx_present (ids : List (List UInt8)) (id : List UInt8) : (ids.any (· == id)) = decide (0 ≤ idx ids id) := by
  rcases idx_cases ids id with ⟨h1, h2⟩ | ⟨k, hk, h1, h2, _⟩
  · rw [h1]
    simp only [show ¬ (0 : Int) ≤ -1 by omega, decide_false]
    rw [List.any_eq_false]
    intro x hx
    simpa using h2 x hx
  · rw [h1]
    simp only [show (0 : Int) ≤ (k : Int) by omega, decide_true]
    rw [List.any_eq_true]
    exact ⟨ids[k], List.getElem_mem hk, by simp [h2]⟩
end Go.Proofs.Qxb6612599a
