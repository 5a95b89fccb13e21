import Derived.Test.Qxb6612599aMem
import Derived.WalkKit
import Derived.ProofKit
import Derived.OpenShut
import Derived.Below
namespace Go.Proofs.Qxb6612599a
open Go.ChangeShapes Go.WideShapes Go.ChangeAt Go.RowKit

/-- The guard on the lengths (function 9): it answers a bool and turns nothing. -/
def RetB (e : Ending) : Prop := ∃ b, e = .returned (.bool b)
theorem bytes9_any (a : Option Addr) (len cap : Nat) (i : Int) (w : World) (hl : len ≤ maxLen) :
    Calls Try.prog 9 #[.slice a len cap, .int .i64 i] w fun e w' => RetB e ∧ w' = w := by
  unfold maxLen at hl
  by_cases h : len ≤ 1048576
  · go_enter Try.func9, Try.ntmps9
    go_wp2
    go_loop [5, 6] (fun n i => ∃ k : Nat, ∃ q : Int, k ≤ len ∧ i = .int .i64 k ∧ n = .int .i64 q ∧ 0 ≤ q ∧ q ≤ 1048576) (fun _ i => len - (intOf i).toNat)
    case atStart => exact ⟨0, _, Nat.zero_le _, rfl, rfl, by omega, by omega⟩
    case round =>
      obtain ⟨k, q, hk, rfl, rfl, hq0, hq1⟩ := hrel
      by_cases hlt : k < len
      · by_cases hq2 : q + 20 ≤ 1048576
        · go_wp2
          go_round
          case rel => exact ⟨k + 1, q + 20, by omega, by go_num, by go_num, by omega, by omega⟩
          case measure => simp [intOf]; omega
        · go_wp2
          go_ret
          exact ⟨⟨_, rfl⟩, rfl⟩
      · go_wp2
        go_ret
        exact ⟨⟨_, rfl⟩, rfl⟩
  · go_enter Try.func9, Try.ntmps9
    go_wp2
    go_ret
    exact ⟨⟨_, rfl⟩, rfl⟩
end Go.Proofs.Qxb6612599a
