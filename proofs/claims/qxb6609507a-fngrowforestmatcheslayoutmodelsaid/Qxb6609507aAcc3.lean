import Derived.Test.Qxb6609507aAcc2
namespace Go.Proofs.Qxb6609507a
set_option linter.unusedVariables false
set_option linter.unusedSimpArgs false
open Go.ChangeShapes Go.WideShapes Go.ChangeAt Go.RowKit
theorem one91 : oneB Try.prog 91 = true := by kernel_rfl
theorem es91 : elemSize Try.prog 91 = some 3 := by kernel_rfl
theorem fo98_0 : fieldOff Try.prog 98 0 = some 0 := by kernel_rfl
theorem fo98_1 : fieldOff Try.prog 98 1 = some 1 := by kernel_rfl
theorem fo98_2 : fieldOff Try.prog 98 2 = some 2 := by kernel_rfl
set_option maxRecDepth 20000 in
set_option maxHeartbeats 400000 in
/-- ZZlink (function 34). -/
theorem link_any (fb l lkb lk n cap i : Nat) (v0 v1 v2 : Value) (w : World) (hl : l < 5) (h0 : w.cell? ⟨fb, 22, none⟩ = some (.pointer (some ⟨lkb, 0, none⟩))) (h1 : w.cell? ⟨lkb, l, none⟩ = some (.slice (some ⟨lk, 0, none⟩) n cap)) (hi : i < n)
    (c0 : w.cell? ⟨lk, i * 3 + 0, none⟩ = some v0) (c1 : w.cell? ⟨lk, i * 3 + 1, none⟩ = some v1) (c2 : w.cell? ⟨lk, i * 3 + 2, none⟩ = some v2) :
    Calls Try.prog 34 #[.pointer (some ⟨fb, 0, none⟩), .int .i64 l, .int .i64 i] w fun e w' => e = .returned (.tuple #[v0, v1, v2]) ∧ ∃ k, w' = w.drewN k := by
  go_enter Try.func34, Try.ntmps34
  go_wp2
  refine wp_region_quiet_lit (by kernel_rfl) (by kernel_rfl) ?_
  repeat (first
    | (refine wq_v 15 (.pointer (some ⟨lkb, 0 + l, none⟩)) rfl (fun w' _ => exec_arr1 Try.underlying99 size91 rfl rfl hl w') ?_; simp only [Act.put, List.setIfInBounds_toArray, List.set_cons_succ, List.set_cons_zero])
    | (refine wq_v 16 (.slice (some ⟨lk, 0, none⟩) n cap) rfl (fun w' hw' => exec_load1 one91 rfl (by obtain ⟨q, rfl⟩ := hw'; rw [Nat.zero_add]; exact h1)) ?_; simp only [Act.put, List.setIfInBounds_toArray, List.set_cons_succ, List.set_cons_zero])
    | (refine wq_v 18 (.pointer (some ⟨lk, 0 + i * 3, none⟩)) rfl (fun w' _ => exec_index es91 rfl rfl hi w') ?_; simp only [Act.put, List.setIfInBounds_toArray, List.set_cons_succ, List.set_cons_zero])
    | (refine wq_v 19 (.pointer (some ⟨lk, 0 + i * 3 + 0, none⟩)) rfl (fun w' _ => exec_field fo98_0 rfl w') ?_; simp only [Act.put, List.setIfInBounds_toArray, List.set_cons_succ, List.set_cons_zero])
    | (refine wq_v 20 v0 rfl (fun w' hw' => exec_load1 one21 rfl (by obtain ⟨q, rfl⟩ := hw'; rw [Nat.zero_add]; exact c0)) ?_; simp only [Act.put, List.setIfInBounds_toArray, List.set_cons_succ, List.set_cons_zero])
    | (refine wq_v 27 (.pointer (some ⟨lkb, 0 + l, none⟩)) rfl (fun w' _ => exec_arr1 Try.underlying99 size91 rfl rfl hl w') ?_; simp only [Act.put, List.setIfInBounds_toArray, List.set_cons_succ, List.set_cons_zero])
    | (refine wq_v 28 (.slice (some ⟨lk, 0, none⟩) n cap) rfl (fun w' hw' => exec_load1 one91 rfl (by obtain ⟨q, rfl⟩ := hw'; rw [Nat.zero_add]; exact h1)) ?_; simp only [Act.put, List.setIfInBounds_toArray, List.set_cons_succ, List.set_cons_zero])
    | (refine wq_v 30 (.pointer (some ⟨lk, 0 + i * 3, none⟩)) rfl (fun w' _ => exec_index es91 rfl rfl hi w') ?_; simp only [Act.put, List.setIfInBounds_toArray, List.set_cons_succ, List.set_cons_zero])
    | (refine wq_v 31 (.pointer (some ⟨lk, 0 + i * 3 + 1, none⟩)) rfl (fun w' _ => exec_field fo98_1 rfl w') ?_; simp only [Act.put, List.setIfInBounds_toArray, List.set_cons_succ, List.set_cons_zero])
    | (refine wq_v 32 v1 rfl (fun w' hw' => exec_load1 one21 rfl (by obtain ⟨q, rfl⟩ := hw'; rw [Nat.zero_add]; exact c1)) ?_; simp only [Act.put, List.setIfInBounds_toArray, List.set_cons_succ, List.set_cons_zero])
    | (refine wq_v 39 (.pointer (some ⟨lkb, 0 + l, none⟩)) rfl (fun w' _ => exec_arr1 Try.underlying99 size91 rfl rfl hl w') ?_; simp only [Act.put, List.setIfInBounds_toArray, List.set_cons_succ, List.set_cons_zero])
    | (refine wq_v 40 (.slice (some ⟨lk, 0, none⟩) n cap) rfl (fun w' hw' => exec_load1 one91 rfl (by obtain ⟨q, rfl⟩ := hw'; rw [Nat.zero_add]; exact h1)) ?_; simp only [Act.put, List.setIfInBounds_toArray, List.set_cons_succ, List.set_cons_zero])
    | (refine wq_v 42 (.pointer (some ⟨lk, 0 + i * 3, none⟩)) rfl (fun w' _ => exec_index es91 rfl rfl hi w') ?_; simp only [Act.put, List.setIfInBounds_toArray, List.set_cons_succ, List.set_cons_zero])
    | (refine wq_v 43 (.pointer (some ⟨lk, 0 + i * 3 + 2, none⟩)) rfl (fun w' _ => exec_field fo98_2 rfl w') ?_; simp only [Act.put, List.setIfInBounds_toArray, List.set_cons_succ, List.set_cons_zero])
    | (refine wq_v 44 v2 rfl (fun w' hw' => exec_load1 one21 rfl (by obtain ⟨q, rfl⟩ := hw'; rw [Nat.zero_add]; exact c2)) ?_; simp only [Act.put, List.setIfInBounds_toArray, List.set_cons_succ, List.set_cons_zero])
    | quiet_step (fail))
  refine wpQuiet_nil ?_
  rintro _ ⟨nq, rfl⟩
  go_wp2
  go_ret3
  exact ⟨rfl, _, rfl⟩
end Go.Proofs.Qxb6609507a
