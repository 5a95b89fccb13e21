import Derived.Test.Qxb6609507aAcc
namespace Go.Proofs.Qxb6609507a
set_option linter.unusedVariables false
set_option linter.unusedSimpArgs false
open Go.ChangeShapes Go.WideShapes Go.ChangeAt Go.RowKit
/-! ### The exported names hand on -/
theorem zzFirstAt {fb l : Nat} {ord : Int} {w : World} {v : Value} {S : World → Prop} (h : Calls Try.prog 47 #[.pointer (some ⟨fb, 0, none⟩), .int .i8 l, .int .i32 ord] w fun e w' => e = .returned v ∧ S w') :
    Calls Try.prog 31 #[.pointer (some ⟨fb, 0, none⟩), .int .i8 l, .int .i32 ord] w fun e w' => e = .returned v ∧ S w' := by
  replace h := hide h
  go_enter Try.func31, Try.ntmps31
  go_wp2_with (go_at_call 47; refine h.out.mono ?_; rintro e w1 ⟨rfl, hR⟩)
  go_ret
  exact ⟨rfl, hR⟩
theorem zzParentOrd {fb lv o : Nat} {w : World} {v : Value} {S : World → Prop} (h : Calls Try.prog 48 #[.pointer (some ⟨fb, 0, none⟩), .pointer (some ⟨lv, o, none⟩)] w fun e w' => e = .returned v ∧ S w') :
    Calls Try.prog 32 #[.pointer (some ⟨fb, 0, none⟩), .pointer (some ⟨lv, o, none⟩)] w fun e w' => e = .returned v ∧ S w' := by
  replace h := hide h
  go_enter Try.func32, Try.ntmps32
  go_wp2_with (go_at_call 48; refine h.out.mono ?_; rintro e w1 ⟨rfl, hR⟩)
  go_ret
  exact ⟨rfl, hR⟩
theorem zzParent {fb lv o : Nat} {w : World} {v : Value} {S : World → Prop} (h : Calls Try.prog 49 #[.pointer (some ⟨fb, 0, none⟩), .pointer (some ⟨lv, o, none⟩)] w fun e w' => e = .returned v ∧ S w') :
    Calls Try.prog 33 #[.pointer (some ⟨fb, 0, none⟩), .pointer (some ⟨lv, o, none⟩)] w fun e w' => e = .returned v ∧ S w' := by
  replace h := hide h
  go_enter Try.func33, Try.ntmps33
  go_wp2_with (go_at_call 49; refine h.out.mono ?_; rintro e w1 ⟨rfl, hR⟩)
  go_ret
  exact ⟨rfl, hR⟩
theorem isTop_any (fb lv o : Nat) (b : Bool) (w : World) (hc : w.cell? ⟨lv, o + 4, none⟩ = some (.bool b)) :
    Calls Try.prog 56 #[.pointer (some ⟨fb, 0, none⟩), .pointer (some ⟨lv, o, none⟩)] w fun e w' => e = .returned (.bool b) ∧ w' = w := by
  go_enter Try.func56, Try.ntmps56
  go_wp2
  go_ret
  exact ⟨rfl, rfl⟩
theorem parent_top (fb lv o : Nat) (w : World) (hc : w.cell? ⟨lv, o + 4, none⟩ = some (.bool true)) :
    Calls Try.prog 49 #[.pointer (some ⟨fb, 0, none⟩), .pointer (some ⟨lv, o, none⟩)] w fun e w' => e = .returned (.pointer none) ∧ w' = w := by
  go_enter Try.func49, Try.ntmps49
  go_wp2_with (go_at_call 56; refine (isTop_any fb lv o true w hc).mono ?_; rintro e w1 ⟨rfl, hw⟩; obtain rfl := hw.symm)
  go_ret
  exact ⟨rfl, rfl⟩
theorem one82 : oneB Try.prog 82 = true := by kernel_rfl
theorem size82 : (Try.prog.info? 82).map (·.size) = some 1 := by kernel_rfl
theorem es82 : elemSize Try.prog 82 = some 6 := by kernel_rfl
theorem plain48 : plainFn Try.prog 48 = true := by kernel_rfl
theorem fo93_3 : fieldOff Try.prog 93 3 = some 3 := by kernel_rfl
theorem one48 : oneB Try.prog 48 = true := by kernel_rfl
theorem exec_index32 {P : Program} {d : Option Tmp} {ty : TypeId} {pos : String} {af : Array Edge} {g : Option (Nat × Bool)} {a : Act} {t size : Nat} (hs : elemSize P t = some size) {x i : Operand} {b o len cap k : Nat} (hx : a.eval x = .slice (some ⟨b, o, none⟩) len cap) (hi : a.eval i = .int .i32 k) (hk : k < len) (w : World) :
    (execOp a.eval { dst := d, op := .indexAddr t x i, type := ty, pos := pos, after := af, guard := g }).run P w = .ok (.value (.pointer (some ⟨b, o + k * size, none⟩))) w := by
  unfold elemSize at hs
  split at hs
  · rename_i e hu
    have hk' : (k : Int) < (len : Int) := by omega
    simp [execOp, hx, hi, Instr.indexAt, asIntOf, run_underlying hu, run_sizeOf hs, hk, add_at]
  · cases hs
set_option maxHeartbeats 400000 in
/-- The parent of a cell that is no root: parentOrd's answer, in the level above. -/
theorem parent_in (fb l lv o q lu n cap : Nat) (w : World) (hl : l + 1 < 5) (hc : w.cell? ⟨lv, o + 4, none⟩ = some (.bool false)) (hlv : w.cell? ⟨lv, o + 3, none⟩ = some (.int .i8 l)) (hu : w.cell? ⟨fb, 2 + (l + 1), none⟩ = some (.slice (some ⟨lu, 0, none⟩) n cap)) (hq : q < n)
    (hp : ∀ k, Calls Try.prog 48 #[.pointer (some ⟨fb, 0, none⟩), .pointer (some ⟨lv, o, none⟩)] (w.drewN k) fun e w' => e = .returned (.int .i32 q) ∧ ∃ k, w' = w.drewN k) :
    Calls Try.prog 49 #[.pointer (some ⟨fb, 0, none⟩), .pointer (some ⟨lv, o, none⟩)] w fun e w' => e = .returned (.pointer (some ⟨lu, q * 6, none⟩)) ∧ ∃ k, w' = w.drewN k := by
  go_enter Try.func49, Try.ntmps49
  go_wp2_with (go_at_call 56; refine (isTop_any fb lv o false w hc).mono ?_; rintro e w1 ⟨rfl, hw⟩; obtain rfl := hw.symm)
  refine wp_region_quiet_lit (by kernel_rfl) (by kernel_rfl) ?_
  repeat (first
    | (refine wq_v 13 (.int .i8 ((l + 1 : Nat) : Int)) rfl (fun w' _ => exec_add8 rfl (by omega) w') ?_; simp only [Act.put, List.setIfInBounds_toArray, List.set_cons_succ, List.set_cons_zero])
    | (refine wq_v 16 (.pointer (some ⟨fb, 2 + (l + 1), none⟩)) rfl (fun w' _ => exec_arr1 (l := l + 1) Try.underlying83 size82 rfl rfl hl w') ?_; simp only [Act.put, List.setIfInBounds_toArray, List.set_cons_succ, List.set_cons_zero])
    | (refine wq_v 17 (.slice (some ⟨lu, 0, none⟩) n cap) rfl (fun w' hw' => exec_load1 one82 rfl (by obtain ⟨q, rfl⟩ := hw'; exact hu)) ?_; simp only [Act.put, List.setIfInBounds_toArray, List.set_cons_succ, List.set_cons_zero])
    | (refine wq_call 20 (.int .i32 q) rfl plain48 [.pointer (some ⟨fb, 0, none⟩), .pointer (some ⟨lv, o, none⟩)] rfl (fun w' hw' => by obtain ⟨k, rfl⟩ := hw'; exact hp k) ?_; simp only [Act.put, List.setIfInBounds_toArray, List.set_cons_succ, List.set_cons_zero])
    | (refine wq_v 21 (.pointer (some ⟨lu, 0 + q * 6, none⟩)) rfl (fun w' _ => exec_index32 es82 rfl rfl hq w') ?_; simp only [Act.put, List.setIfInBounds_toArray, List.set_cons_succ, List.set_cons_zero])
    | quiet_step (fail))
  refine wpQuiet_nil ?_
  rintro _ ⟨nq, rfl⟩
  go_wp2
  go_ret
  exact ⟨by simp, _, rfl⟩
end Go.Proofs.Qxb6609507a
