import Derived.Test.Qxb6609507aForest
namespace Go.Proofs.Qxb6609507a
set_option linter.unusedVariables false
set_option linter.unusedSimpArgs false
open Go.ChangeShapes Go.WideShapes Go.ChangeAt Go.RowKit
/-! ### The accessors -/
section
variable {d : Option Tmp} {ty : TypeId} {pos : String} {af : Array Edge} {g : Option (Nat × Bool)} {a : Act} {x y : Operand}
/-- The place in an array of one-cell elements. -/
theorem exec_arr1 {t e n b o l : Nat} {k : IntKind} (hu : Try.prog.underlying t = some (.array n e)) (hs : (Try.prog.info? e).map (·.size) = some 1) (hx : a.eval x = .pointer (some ⟨b, o, none⟩)) (hy : a.eval y = .int k l) (hl : l < n) (w : World) :
    (execOp a.eval { dst := d, op := .indexAddr t x y, type := ty, pos := pos, after := af, guard := g }).run Try.prog w = .ok (.value (.pointer (some ⟨b, o + l, none⟩))) w := by
  have hk' : (l : Int) < (n : Int) := by omega
  simp only [execOp, hx, hy]
  simp [go_sem, Instr.indexAt, asIntOf, run_underlying hu, run_sizeOf hs, hl, add_at]
end
theorem size21 : (Try.prog.info? 21).map (·.size) = some 1 := by kernel_rfl
theorem size91 : (Try.prog.info? 91).map (·.size) = some 1 := by kernel_rfl
theorem exec_add8 {d : Option Tmp} {ty t : TypeId} {pos : String} {af : Array Edge} {g : Option (Nat × Bool)} {a : Act} {x : Operand} {l : Nat} (hx : a.eval x = .int .i8 l) (hl : l + 1 < 6) (w : World) :
    (execOp a.eval { dst := d, op := .binOp .add 48 x (.const (.int .i8 1)) t, type := ty, pos := pos, after := af, guard := g }).run Try.prog w = .ok (.value (.int .i8 ((l + 1 : Nat) : Int))) w := by
  have he : a.eval (.const (.int .i8 1)) = .int .i8 1 := rfl
  simp only [execOp, hx, he]
  simp [go_sem]
  simp [IntKind.wrap, IntKind.bits, IntKind.signed]; omega
theorem exec_quo32 {d : Option Tmp} {ty t : TypeId} {pos : String} {af : Array Edge} {g : Option (Nat × Bool)} {a : Act} {x y : Operand} {p q : Nat} (hx : a.eval x = .int .i32 p) (hy : a.eval y = .int .i32 q) (hq : 1 ≤ q) (hp : p ≤ 65536) (w : World) :
    (execOp a.eval { dst := d, op := .binOp .quo 21 x y t, type := ty, pos := pos, after := af, guard := g }).run Try.prog w = .ok (.value (.int .i32 ((p / q : Nat) : Int))) w := by
  have hq0 : ¬ (q : Int) = 0 := by omega
  simp only [execOp, hx, hy]
  simp [go_sem, hq0]
  rw [if_neg (by omega)]
  have hd : ((p : Int) / (q : Int)) = ((p / q : Nat) : Int) := by simp
  have hw : IntKind.i32.wrap ((p : Int) / (q : Int)) = ((p : Int) / (q : Int)) := by
    rw [hd, IntKind.wrap_i32]
    have := Nat.div_le_self p q
    generalize p / q = r at *
    omega
  rw [hw]
section
variable (fb l : Nat) (w : World)
theorem levelLen_any (n cap : Nat) (a : Option Addr) (hl : l < 5) (hc : w.cell? ⟨fb, 2 + l, none⟩ = some (.slice a n cap)) :
    Calls Try.prog 26 #[.pointer (some ⟨fb, 0, none⟩), .int .i64 l] w fun e w' => e = .returned (.int .i64 n) ∧ w' = w := by
  go_enter Try.func26, Try.ntmps26
  go_wp2
  go_ret
  exact ⟨rfl, rfl⟩
theorem links_any (v : Value) (hc : w.cell? ⟨fb, 22, none⟩ = some v) :
    Calls Try.prog 25 #[.pointer (some ⟨fb, 0, none⟩)] w fun e w' => e = .returned v ∧ w' = w := by
  go_enter Try.func25, Try.ntmps25
  go_wp2
  go_ret
  exact ⟨rfl, rfl⟩
theorem linkLen_any (lkb n cap : Nat) (a : Option Addr) (hl : l < 5) (h0 : w.cell? ⟨fb, 22, none⟩ = some (.pointer (some ⟨lkb, 0, none⟩))) (hc : w.cell? ⟨lkb, l, none⟩ = some (.slice a n cap)) :
    Calls Try.prog 27 #[.pointer (some ⟨fb, 0, none⟩), .int .i64 l] w fun e w' => e = .returned (.int .i64 n) ∧ w' = w := by
  go_enter Try.func27, Try.ntmps27
  go_wp2
  go_ret
  exact ⟨rfl, rfl⟩
theorem inner_any (v : Value) (hl : l < 5) (hc : w.cell? ⟨fb, 23 + l, none⟩ = some v) :
    Calls Try.prog 28 #[.pointer (some ⟨fb, 0, none⟩), .int .i64 l] w fun e w' => e = .returned v ∧ w' = w := by
  go_enter Try.func28, Try.ntmps28
  go_wp2
  go_ret
  exact ⟨rfl, rfl⟩
theorem fanout_any (v : Value) (hl : l < 6) (hc : w.cell? ⟨fb, 33 + l, none⟩ = some v) :
    Calls Try.prog 29 #[.pointer (some ⟨fb, 0, none⟩), .int .i64 l] w fun e w' => e = .returned v ∧ w' = w := by
  go_enter Try.func29, Try.ntmps29
  go_wp2
  go_ret
  exact ⟨rfl, rfl⟩
theorem sizeAt_any (v : Value) (hl : l < 5) (hc : w.cell? ⟨fb, 28 + l, none⟩ = some v) :
    Calls Try.prog 36 #[.pointer (some ⟨fb, 0, none⟩), .int .i64 l] w fun e w' => e = .returned v ∧ w' = w := by
  go_enter Try.func36, Try.ntmps36
  go_wp2
  go_ret
  exact ⟨rfl, rfl⟩
theorem cellAt_any (lv n cap i : Nat) (hl : l < 5) (hc : w.cell? ⟨fb, 2 + l, none⟩ = some (.slice (some ⟨lv, 0, none⟩) n cap)) (hi : i < n) :
    Calls Try.prog 30 #[.pointer (some ⟨fb, 0, none⟩), .int .i64 l, .int .i64 i] w fun e w' => e = .returned (.pointer (some ⟨lv, i * 6, none⟩)) ∧ w' = w := by
  go_enter Try.func30, Try.ntmps30
  go_wp2
  go_ret
  exact ⟨rfl, rfl⟩
theorem firstAt_unlinked (ord sz : Nat) (hl : l < 5) (h0 : w.cell? ⟨fb, 22, none⟩ = some (.pointer none)) (hc : w.cell? ⟨fb, 28 + l, none⟩ = some (.int .i32 sz)) (hb : ((ord : Int) * (sz : Int)) ≤ 2147483647) :
    Calls Try.prog 47 #[.pointer (some ⟨fb, 0, none⟩), .int .i8 l, .int .i32 ord] w fun e w' => e = .returned (.int .i32 ((ord : Int) * (sz : Int))) ∧ w' = w := by
  have hb0 : 0 ≤ ((ord : Int) * (sz : Int)) := by rw [← Int.natCast_mul]; exact Int.natCast_nonneg _
  go_enter Try.func47, Try.ntmps47
  go_wp2
  go_ret
  exact ⟨rfl, rfl⟩
theorem firstAt_linked (ord lkb lk n cap : Nat) (v : Value) (hl : l < 5) (h0 : w.cell? ⟨fb, 22, none⟩ = some (.pointer (some ⟨lkb, 0, none⟩))) (h1 : w.cell? ⟨lkb, l, none⟩ = some (.slice (some ⟨lk, 0, none⟩) n cap)) (hi : ord < n) (hc : w.cell? ⟨lk, ord * 3, none⟩ = some v) :
    Calls Try.prog 47 #[.pointer (some ⟨fb, 0, none⟩), .int .i8 l, .int .i32 ord] w fun e w' => e = .returned v ∧ w' = w := by
  go_enter Try.func47, Try.ntmps47
  go_wp2
  go_ret
  exact ⟨rfl, rfl⟩
theorem parentOrd_top (lv o : Nat) (hc : w.cell? ⟨lv, o + 4, none⟩ = some (.bool true)) :
    Calls Try.prog 48 #[.pointer (some ⟨fb, 0, none⟩), .pointer (some ⟨lv, o, none⟩)] w fun e w' => e = .returned (.int .i32 (-1)) ∧ w' = w := by
  go_enter Try.func48, Try.ntmps48
  go_wp2
  go_ret
  exact ⟨rfl, rfl⟩
theorem parentOrd_linked (lv o ord lkb lk n cap : Nat) (v : Value) (hl : l < 5) (hc : w.cell? ⟨lv, o + 4, none⟩ = some (.bool false)) (hlv : w.cell? ⟨lv, o + 3, none⟩ = some (.int .i8 l)) (hord : w.cell? ⟨lv, o, none⟩ = some (.int .i32 ord))
    (h0 : w.cell? ⟨fb, 22, none⟩ = some (.pointer (some ⟨lkb, 0, none⟩))) (h1 : w.cell? ⟨lkb, l, none⟩ = some (.slice (some ⟨lk, 0, none⟩) n cap)) (hi : ord < n) (hv : w.cell? ⟨lk, ord * 3 + 1, none⟩ = some v) :
    Calls Try.prog 48 #[.pointer (some ⟨fb, 0, none⟩), .pointer (some ⟨lv, o, none⟩)] w fun e w' => e = .returned v ∧ ∃ k, w' = w.drewN k := by
  go_enter Try.func48, Try.ntmps48
  go_wp2
  refine wp_region_quiet_lit (by kernel_rfl) (by kernel_rfl) ?_
  repeat (first
    | (refine wq_v 25 (.pointer (some ⟨lkb, 0 + l, none⟩)) rfl (fun w' _ => exec_arr1 Try.underlying99 size91 rfl rfl hl w') ?_; simp only [Act.put, List.setIfInBounds_toArray, List.set_cons_succ, List.set_cons_zero])
    | quiet_step (fail))
  refine wpQuiet_nil ?_
  rintro _ ⟨nq, rfl⟩
  go_wp2
  go_ret
  exact ⟨rfl, _, rfl⟩
theorem parentOrd_unlinked (lv o ord f : Nat) (hl : l + 1 < 6) (hc : w.cell? ⟨lv, o + 4, none⟩ = some (.bool false)) (hlv : w.cell? ⟨lv, o + 3, none⟩ = some (.int .i8 l)) (hord : w.cell? ⟨lv, o, none⟩ = some (.int .i32 ord))
    (h0 : w.cell? ⟨fb, 22, none⟩ = some (.pointer none)) (h1 : w.cell? ⟨fb, 33 + (l + 1), none⟩ = some (.int .i32 f)) (hf : 1 ≤ f) (hf2 : f ≤ 65536) (ho : ord ≤ 65536) :
    Calls Try.prog 48 #[.pointer (some ⟨fb, 0, none⟩), .pointer (some ⟨lv, o, none⟩)] w fun e w' => e = .returned (.int .i32 ((ord / f : Nat) : Int)) ∧ ∃ k, w' = w.drewN k := by
  have hwr : IntKind.i8.wrap ((l : Int) + 1) = (l : Int) + 1 := by simp [IntKind.wrap, IntKind.bits, IntKind.signed]; omega
  go_enter Try.func48, Try.ntmps48
  go_wp2
  refine wp_region_quiet_lit (by kernel_rfl) (by kernel_rfl) ?_
  repeat (first
    | (refine wq_v 43 (.int .i8 ((l + 1 : Nat) : Int)) rfl (fun w' _ => exec_add8 rfl hl w') ?_; simp only [Act.put, List.setIfInBounds_toArray, List.set_cons_succ, List.set_cons_zero])
    | (refine wq_v 46 (.pointer (some ⟨fb, 33 + (l + 1), none⟩)) rfl (fun w' _ => exec_arr1 (l := l + 1) Try.underlying86 size21 rfl rfl hl w') ?_; simp only [Act.put, List.setIfInBounds_toArray, List.set_cons_succ, List.set_cons_zero])
    | (refine wq_v 47 (.int .i32 f) rfl (fun w' hw' => exec_load1 one21 rfl (by obtain ⟨q, rfl⟩ := hw'; exact h1)) ?_; simp only [Act.put, List.setIfInBounds_toArray, List.set_cons_succ, List.set_cons_zero])
    | (refine wq_v 48 (.int .i32 ((ord / f : Nat) : Int)) rfl (fun w' _ => exec_quo32 rfl rfl hf ho w') ?_; simp only [Act.put, List.setIfInBounds_toArray, List.set_cons_succ, List.set_cons_zero])
    | quiet_step (fail))
  refine wpQuiet_nil ?_
  rintro _ ⟨nq, rfl⟩
  go_wp2
  go_ret
  exact ⟨rfl, _, rfl⟩
end
end Go.Proofs.Qxb6609507a
