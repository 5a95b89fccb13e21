import Derived.Test.Qxb6612636aReg
namespace Go.Proofs.Qxb6612636a
set_option linter.unusedVariables false
open Go.ChangeShapes Go.WideShapes Go.ChangeAt Go.RowKit

/-- WHAT CAME IN: methods, each a name and a flag, in memory from an address on (which an empty list does not look at). -/
def MsIn (w : World) (a : Option Addr) (ms : List (ByteArray × Bool)) : Prop :=
  ∀ k (hk : k < ms.length), ∃ b o, a = some ⟨b, o, none⟩ ∧ w.cell? ⟨b, o + k * 2, none⟩ = some (.string ms[k].1) ∧ w.cell? ⟨b, o + k * 2 + 1, none⟩ = some (.bool ms[k].2)
theorem MsIn.below {w w' : World} {a : Option Addr} {ms : List (ByteArray × Bool)} (h : MsIn w a ms) (hb : Below w.heap.size w w') : MsIn w' a ms := by
  intro k hk
  obtain ⟨b, o, ha, h1, h2⟩ := h k hk
  have hlt : b < w.heap.size := cell_lt h1
  exact ⟨b, o, ha, (hb.cell (p := ⟨b, _, none⟩) hlt).trans h1, (hb.cell (p := ⟨b, _, none⟩) hlt).trans h2⟩

def RetB (e : Ending) : Prop := ∃ b, e = .returned (.bool b)
def RetN (n : Nat) (e : Ending) : Prop := ∃ b, e = .returned (.bool b) ∧ (b = true → n ≤ 1048576)

set_option maxHeartbeats 1000000 in
/-- The guard on the lengths (function 5). -/
theorem bytes5_any (a : Option Addr) (ms : List (ByteArray × Bool)) (cap : Nat) (i : Int) (w : World) (hin : MsIn w a ms) (hl : ms.length ≤ maxLen) (hs : ∀ m ∈ ms, m.1.size ≤ maxLen) :
    Calls Try.prog 5 #[.slice a ms.length cap, .int .i64 i] w fun e w' => RetN ms.length e ∧ w' = w := by
  unfold maxLen at hl hs
  by_cases h : ms.length ≤ 1048576
  · go_enter Try.func5, Try.ntmps5
    go_wp2
    go_loop [5, 6] (fun n i => ∃ k : Nat, ∃ q : Int, k ≤ ms.length ∧ i = .int .i64 k ∧ n = .int .i64 q ∧ 0 ≤ q ∧ q ≤ 1048576) (fun _ i => ms.length - (intOf i).toNat)
    case atStart => exact ⟨0, _, Nat.zero_le _, rfl, rfl, by omega, by omega⟩
    case round =>
      obtain ⟨k, q, hk, rfl, rfl, hq0, hq1⟩ := hrel
      by_cases hlt : k < ms.length
      · obtain ⟨b, o, rfl, hc1, hc2⟩ := hin k hlt
        have hsz := hs _ (List.getElem_mem hlt)
        generalize (ms[k]).1 = nm at *
        generalize (ms[k]).2 = hr at *
        by_cases hq2 : nm.size ≤ 1048576
        · by_cases hq3 : q + nm.size ≤ 1048576
          · go_wp2
            go_round
            case rel => exact ⟨k + 1, q + nm.size, by omega, by go_num, by go_num, by omega, by omega⟩
            case measure => simp [intOf]; omega
          · go_wp2
            go_ret
            exact ⟨⟨_, rfl, fun _ => h⟩, rfl⟩
        · go_wp2
          go_ret
          exact ⟨⟨_, rfl, fun _ => h⟩, rfl⟩
      · go_wp2
        go_ret
        exact ⟨⟨_, rfl, fun _ => h⟩, rfl⟩
  · go_enter Try.func5, Try.ntmps5
    go_wp2
    go_ret
    exact ⟨⟨_, rfl, fun h => by cases h⟩, rfl⟩

set_option maxHeartbeats 1000000 in
/-- The guard on the lengths (function 9). -/
theorem bytes9_any (a : Option Addr) (ms : List (ByteArray × Bool)) (cap : Nat) (i : Int) (name : ByteArray) (has : Bool) (w : World) (hin : MsIn w a ms) (hl : ms.length ≤ maxLen) (hs : ∀ m ∈ ms, m.1.size ≤ maxLen) (hn : name.size ≤ maxLen) :
    Calls Try.prog 9 #[.slice a ms.length cap, .int .i64 i, .string name, .bool has] w fun e w' => RetN ms.length e ∧ w' = w := by
  unfold maxLen at hl hs hn
  by_cases h : ms.length ≤ 1048576
  · go_enter Try.func9, Try.ntmps9
    go_wp2
    go_loop [9, 10] (fun n i => ∃ k : Nat, ∃ q : Int, k ≤ ms.length ∧ i = .int .i64 k ∧ n = .int .i64 q ∧ 0 ≤ q ∧ q ≤ 1048576) (fun _ i => ms.length - (intOf i).toNat)
    case atStart => exact ⟨0, _, Nat.zero_le _, rfl, rfl, by omega, by omega⟩
    case round =>
      obtain ⟨k, q, hk, rfl, rfl, hq0, hq1⟩ := hrel
      by_cases hlt : k < ms.length
      · obtain ⟨b, o, rfl, hc1, hc2⟩ := hin k hlt
        have hsz := hs _ (List.getElem_mem hlt)
        generalize (ms[k]).1 = nm at *
        generalize (ms[k]).2 = hr at *
        by_cases hq2 : nm.size ≤ 1048576
        · by_cases hq3 : q + nm.size ≤ 1048576
          · go_wp2
            go_round
            case rel => exact ⟨k + 1, q + nm.size, by omega, by go_num, by go_num, by omega, by omega⟩
            case measure => simp [intOf]; omega
          · go_wp2
            go_ret
            exact ⟨⟨_, rfl, fun _ => h⟩, rfl⟩
        · go_wp2
          go_ret
          exact ⟨⟨_, rfl, fun _ => h⟩, rfl⟩
      · go_wp2
        all_goals
          go_ret
          exact ⟨⟨_, rfl, fun _ => h⟩, rfl⟩
  · go_enter Try.func9, Try.ntmps9
    go_wp2
    go_ret
    exact ⟨⟨_, rfl, fun h => by cases h⟩, rfl⟩

set_option maxHeartbeats 1000000 in
/-- zzReqListFits (function 6): it answers a bool and turns nothing. -/
theorem fits_any (a : Option Addr) (ms : List (ByteArray × Bool)) (cap : Nat) (bud : Int) (w : World) (hin : MsIn w a ms) (hl : ms.length ≤ maxLen) (hs : ∀ m ∈ ms, m.1.size ≤ maxLen) (hb0 : 24 ≤ bud) (hb1 : bud ≤ 1048576) :
    Calls Try.prog 6 #[.slice a ms.length cap, .int .i64 bud] w fun e w' => RetB e ∧ w' = w := by
  unfold maxLen at hl hs
  go_enter Try.func6, Try.ntmps6
  go_wp2
  go_loop [5, 6] (fun n i => ∃ k : Nat, ∃ q : Int, k ≤ ms.length ∧ i = .int .i64 k ∧ n = .int .i64 q ∧ 0 ≤ q ∧ q ≤ bud) (fun _ i => ms.length - (intOf i).toNat)
  case atStart => exact ⟨0, _, Nat.zero_le _, rfl, rfl, by omega, by omega⟩
  case round =>
    obtain ⟨k, q, hk, rfl, rfl, hq0, hq1⟩ := hrel
    by_cases hlt : k < ms.length
    · obtain ⟨b, o, rfl, hc1, hc2⟩ := hin k hlt
      have hsz := hs _ (List.getElem_mem hlt)
      generalize (ms[k]).1 = nm at *
      generalize (ms[k]).2 = hr at *
      by_cases hq2 : q ≤ bud - 24
      · by_cases hq3 : (nm.size : Int) ≤ bud - 24 - q
        · go_wp2
          go_round
          case rel => exact ⟨k + 1, q + (24 + nm.size), by omega, by go_num, by go_num, by omega, by omega⟩
          case measure => simp [intOf]; omega
        · go_wp2
          go_ret
          exact ⟨⟨_, rfl⟩, rfl⟩
      · go_wp2
        go_ret
        exact ⟨⟨_, rfl⟩, rfl⟩
    · go_wp2
      go_ret
      exact ⟨⟨_, rfl⟩, rfl⟩
end Go.Proofs.Qxb6612636a
