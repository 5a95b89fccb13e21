import Derived.Test.Qxb6609507aLaw5A
import Derived.Test.Qxb6609507aLaw6C
namespace Go.Proofs.Qxb6609507a
set_option linter.unusedVariables false
set_option linter.unusedSimpArgs false
open Go.ChangeShapes Go.WideShapes Go.ChangeAt Go.RowKit
theorem results_tmp4 {fn : Func} {t u v x : Tmp} (h : fn.results = #[.tmp t, .tmp u, .tmp v, .tmp x]) (tmps : Array Value) (P : Program) (w : World) :
    (results fn tmps).run P w = .ok (.tuple #[tmps.getD t undef, tmps.getD u undef, tmps.getD v undef, tmps.getD x undef]) w := by
  simp [results, h]
theorem results_tmp6 {fn : Func} {t u v x y z : Tmp} (h : fn.results = #[.tmp t, .tmp u, .tmp v, .tmp x, .tmp y, .tmp z]) (tmps : Array Value) (P : Program) (w : World) :
    (results fn tmps).run P w = .ok (.tuple #[tmps.getD t undef, tmps.getD u undef, tmps.getD v undef, tmps.getD x undef, tmps.getD y undef, tmps.getD z undef]) w := by
  simp [results, h]
set_option maxRecDepth 20000 in
set_option maxHeartbeats 1000000 in
/-- ZZcell (37). -/
theorem cell37_any (b o : Nat) (v0 v1 v2 v3 v4 v5 : Value) (w : World)
    (c0 : w.cell? ⟨b, o, none⟩ = some v0) (c1 : w.cell? ⟨b, o + 1, none⟩ = some v1) (c2 : w.cell? ⟨b, o + 2, none⟩ = some v2) (c3 : w.cell? ⟨b, o + 3, none⟩ = some v3) (c4 : w.cell? ⟨b, o + 4, none⟩ = some v4) (c5 : w.cell? ⟨b, o + 5, none⟩ = some v5) :
    Calls Try.prog 37 #[.pointer (some ⟨b, o, none⟩)] w fun e w' => e = .returned (.tuple #[v0, v1, v2, v3, v4, v5]) ∧ ∃ k, w' = w.drewN k := by
  go_enter Try.func37, Try.ntmps37
  go_wp2_with (fail)
  go_big_quiet (fail)
  go_wp2_with (fail)
  (try simp only [Exit.inBlock, Exit.then])
  refine bodyPost_ret (results_tmp6 rfl _ _ _) rfl ?_
  exact ⟨rfl, _, rfl⟩
set_option maxRecDepth 20000 in
set_option maxHeartbeats 1000000 in
/-- ZZrun (41). -/
theorem run41_any (fb ub n cap k : Nat) (v0 v1 v2 v3 : Value) (w : World) (h0 : w.cell? ⟨fb, 1, none⟩ = some (.slice (some ⟨ub, 0, none⟩) n cap)) (hk : k < n)
    (c0 : w.cell? ⟨ub, k * 4, none⟩ = some v0) (c1 : w.cell? ⟨ub, k * 4 + 1, none⟩ = some v1) (c2 : w.cell? ⟨ub, k * 4 + 2, none⟩ = some v2) (c3 : w.cell? ⟨ub, k * 4 + 3, none⟩ = some v3) :
    Calls Try.prog 41 #[.pointer (some ⟨fb, 0, none⟩), .int .i64 k] w fun e w' => e = .returned (.tuple #[v0, v1, v2, v3]) ∧ ∃ k, w' = w.drewN k := by
  go_enter Try.func41, Try.ntmps41
  go_wp2_with (fail)
  go_big_quiet (fail)
  go_wp2_with (fail)
  (try simp only [Exit.inBlock, Exit.then])
  refine bodyPost_ret (results_tmp4 rfl _ _ _) rfl ?_
  exact ⟨rfl, _, rfl⟩
end Go.Proofs.Qxb6609507a
