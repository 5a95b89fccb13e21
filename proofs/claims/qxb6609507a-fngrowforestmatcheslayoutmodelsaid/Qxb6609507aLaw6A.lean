import Derived.Test.Qxb6609507aLaw6R
import Derived.Test.Qxb6609507aForest2L
import Derived.Test.Qxb6609507aForest2U
namespace Go.Proofs.Qxb6609507a
set_option linter.unusedVariables false
set_option linter.unusedSimpArgs false
open Go.ChangeShapes Go.WideShapes Go.ChangeAt Go.RowKit
theorem grow10 (T : Topo) (hT : T.Ok) (tl : List Nat) (ht : Tops T tl) (htl : tl.length ≤ 65536) (linked : Bool) (lb : Nat) (w : World) (hb : Blk w lb (tl.map fun t : Nat => lvV t) 48) :
    Calls Try.prog 10 #[T.val, .slice (some ⟨lb, 0, none⟩) tl.length tl.length, .bool linked] w fun e w' => e = .returned (.pointer (some ⟨w.heap.size + 3, 0, none⟩)) ∧ Grown T tl linked (w.heap.size + 1) w' ∧ Below w.heap.size w w' := by
  have h : ∀ w, Blk w lb (tl.map fun t : Nat => lvV t) 48 → Calls Try.prog 35 #[T.val, .slice (some ⟨lb, 0, none⟩) tl.length tl.length, .bool linked] w fun e w' => e = .returned (.pointer (some ⟨w.heap.size + 2, 0, none⟩)) ∧ Grown T tl linked w.heap.size w' ∧ Below w.heap.size w w' := by
    intro w hb
    cases linked with
    | true => exact forestL T hT tl ht htl true rfl lb w hb
    | false => exact forestU T hT tl ht htl false rfl lb w hb
  have h1 := hide (h (w.alloc (.cells #[.int .i64 T.g, .int .i64 T.p, .int .i64 T.s, .int .i64 T.n] 38)) (hb.al _))
  clear h
  unfold Topo.val at h1 ⊢
  go_enter Try.func10, Try.ntmps10
  go_wp2_with (go_at_call 35; refine h1.out.mono ?_; rintro e w1 ⟨rfl, hG, hB⟩)
  have hsz : (w.alloc (.cells #[Value.int .i64 T.g, .int .i64 T.p, .int .i64 T.s, .int .i64 T.n] 38)).heap.size = w.heap.size + 1 := by simp
  rw [hsz] at hG hB
  go_ret
  refine ⟨by simp, hG, ?_⟩
  exact ((Below.refl _ w).alloc (Nat.le_refl _) _).trans (hB.mono (by omega))
theorem bytes24 (a0 a1 a2 a3 : Int) (a : Option Addr) (n cap : Nat) (hn : n ≤ 9223372036854775807) (w : World) :
    Calls Try.prog 24 #[.int .i64 a0, .int .i64 a1, .int .i64 a2, .int .i64 a3, .slice a n cap] w fun e w' => e = .returned (.bool (decide (n ≤ 1048576))) ∧ w' = w := by
  by_cases h : n ≤ 1048576
  · go_enter Try.func24, Try.ntmps24
    go_wp2
    go_ret
    simp [h]
  · go_enter Try.func24, Try.ntmps24
    go_wp2
    go_ret
    simp [h]
end Go.Proofs.Qxb6609507a
