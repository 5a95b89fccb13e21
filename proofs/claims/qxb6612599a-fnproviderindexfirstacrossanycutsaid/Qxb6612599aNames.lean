import Derived.Test.Qxb6612599aReg
import Derived.Test.Qxb6612599aLaw4
namespace Go.Proofs.Qxb6612599a
set_option linter.unusedVariables false
open Go.ChangeShapes Go.WideShapes Go.ChangeAt Go.RowKit
open Go.Extern.Stop (cell)

def RetBB (w : World) (e : Ending) (w' : World) : Prop := (∃ b, e = .returned (.bool b)) ∧ Below w.heap.size w w'

/-- The guard on the lengths (function 5): it answers a bool and turns nothing that was there. -/
theorem bytes5_any (a : Option Addr) (len cap : Nat) (i : Int) (cs : Array Value) (w : World) (hl : len ≤ maxLen) :
    Calls Try.prog 5 #[.slice a len cap, .int .i64 i, .agg cs] w fun e w' => RetBB w e w' := by
  unfold maxLen at hl
  have hb : Below w.heap.size w (w.alloc (.cells cs 23)) := (Below.refl _ _).alloc (Nat.le_refl _) _
  by_cases h : len ≤ 1048576
  · go_enter Try.func5, Try.ntmps5
    go_wp2
    go_loop [7, 8] (fun n i => ∃ k : Nat, ∃ q : Int, k ≤ len ∧ i = .int .i64 k ∧ n = .int .i64 q ∧ 0 ≤ q ∧ q ≤ 1048576) (fun _ i => len - (intOf i).toNat)
    case atStart => exact ⟨0, _, Nat.zero_le _, rfl, rfl, by omega, by omega⟩
    case round =>
      obtain ⟨k, q, hk, rfl, rfl, hq0, hq1⟩ := hrel
      by_cases hlt : k < len
      · by_cases hq2 : q + 20 ≤ 1048576
        · go_wp2
          go_round
          case rel => exact ⟨k + 1, q + 20, by omega, by go_num, by go_num, by omega, by omega⟩
          case measure => simp [intOf]; omega
        · go_wp2
          go_ret
          exact ⟨⟨_, rfl⟩, hb⟩
      · go_wp2
        go_ret
        exact ⟨⟨_, rfl⟩, hb⟩
  · go_enter Try.func5, Try.ntmps5
    go_wp2
    go_ret
    exact ⟨⟨_, rfl⟩, hb⟩

set_option maxHeartbeats 400000 in
theorem names_any (ids : List (List UInt8)) (hids : ∀ x ∈ ids, x.length = 20) (id : List UInt8) (hid : id.length = 20) (a : Option Addr) (cap : Nat) (r : Int) (w : World) (hin : IdsIn w a ids) (hle : ids.length ≤ 32768)
    (hr : r = -1 ∨ ∃ k : Nat, ∃ hk : k < ids.length, r = k ∧ ids[k] = id) :
    Calls Try.prog 8 #[.slice a ids.length cap, .int .i64 r, .agg (id.map cell).toArray] w fun e w' => Good w e w' := by
  have hb : Below w.heap.size w (w.alloc (.cells (id.map cell).toArray 23)) := (Below.refl _ _).alloc (Nat.le_refl _) _
  rcases hr with rfl | ⟨k, hk, rfl, hkid⟩
  · go_enter Try.func8, Try.ntmps8
    go_wp2
    go_ret
    exact ⟨rfl, hb⟩
  · obtain ⟨b, o, rfl, hcs⟩ := hin k hk
    have hkl : (ids[k]).length = 20 := hids _ (List.getElem_mem hk)
    have hbl : b < w.heap.size := cell_lt (hcs 0 _ (List.getElem?_eq_getElem (by simp [hkl])))
    have heq := eq23
    have hee : (ids[k] == id) = true := by simp [hkid]
    have H1 := hide (show ∀ j v, (ids[k].map cell)[j]? = some v → (w.alloc (.cells (id.map cell).toArray 23)).cell? ⟨b, o + k * 20 + j, none⟩ = some v from fun j v hv => by
      rw [World.cell?_alloc_past _ _ _ hbl]; exact hcs j v hv)
    have H2 := hide (show ∀ j v, (id.map cell)[j]? = some v → (w.alloc (.cells (id.map cell).toArray 23)).cell? ⟨w.heap.size, 0 + j, none⟩ = some v from fun j v hv => by
      rw [Nat.zero_add, World.cell?_alloc_at _ _ _ _ rfl]; simpa using hv)
    clear hcs hkid
    go_enter Try.func8, Try.ntmps8
    go_wp2
    refine wp_region_quiet_lit (by kernel_rfl) (by kernel_rfl) ?_
    repeat (first
      | ((with_reducible refine gq_loadg 23 (.tmp 20) ?_); refine wq_loadg rfl rfl agg23 size23 (ids[k].map cell) (by simp [hkl]) (fun w ⟨n, hn⟩ => by subst hn; exact H1.out) ?_)
      | ((with_reducible refine gq_loadg 23 (.tmp 5) ?_); refine wq_loadg rfl rfl agg23 size23 (id.map cell) (by simp [hid]) (fun w ⟨n, hn⟩ => by subst hn; exact H2.out) ?_)
      | quiet_step (fail))
    refine wpQuiet_nil ?_
    rintro _ ⟨nq, rfl⟩
    go_wp2
    go_ret
    exact ⟨by simp, hb.trans ⟨rfl, rfl, rfl, Nat.le_refl _, fun _ _ => rfl⟩⟩
end Go.Proofs.Qxb6612599a
