import Derived.Test.Qxb6609507aRemove
import Derived.Test.Qxb6609507aAcc
import Derived.BigQuiet
namespace Go.Proofs.Qxb6609507a
set_option linter.unusedVariables false
set_option linter.unusedSimpArgs false
open Go.ChangeShapes Go.WideShapes Go.ChangeAt Go.RowKit
/-! ### The free sets' accessors, and the other small ones that laws 3 and 5 call -/
section
variable (fb l : Nat) (w : World)
theorem freeN_any (v : Value) (hl : l < 5) (hc : w.cell? ⟨fb, 7 + l * 3 + 2, none⟩ = some v) :
    Calls Try.prog 19 #[.pointer (some ⟨fb, 0, none⟩), .int .i64 l] w fun e w' => e = .returned v ∧ w' = w := by
  go_enter Try.func19, Try.ntmps19
  go_wp2
  go_ret
  exact ⟨rfl, rfl⟩
theorem freeDepth_any (n cap : Nat) (a : Option Addr) (hl : l < 5) (hc : w.cell? ⟨fb, 7 + l * 3, none⟩ = some (.slice a n cap)) :
    Calls Try.prog 18 #[.pointer (some ⟨fb, 0, none⟩), .int .i64 l] w fun e w' => e = .returned (.int .i64 n) ∧ w' = w := by
  go_enter Try.func18, Try.ntmps18
  go_wp2
  go_ret
  exact ⟨rfl, rfl⟩
theorem wordsLen_any (ob d cap k n c : Nat) (a : Option Addr) (hl : l < 5) (h0 : w.cell? ⟨fb, 7 + l * 3, none⟩ = some (.slice (some ⟨ob, 0, none⟩) d cap)) (hk : k < d) (hc : w.cell? ⟨ob, k, none⟩ = some (.slice a n c)) :
    Calls Try.prog 20 #[.pointer (some ⟨fb, 0, none⟩), .int .i64 l, .int .i64 k] w fun e w' => e = .returned (.int .i64 n) ∧ w' = w := by
  go_enter Try.func20, Try.ntmps20
  go_wp2
  go_ret
  exact ⟨rfl, rfl⟩
theorem word_any (ob d cap k b n c j : Nat) (v : Value) (hl : l < 5) (h0 : w.cell? ⟨fb, 7 + l * 3, none⟩ = some (.slice (some ⟨ob, 0, none⟩) d cap)) (hk : k < d) (h1 : w.cell? ⟨ob, k, none⟩ = some (.slice (some ⟨b, 0, none⟩) n c)) (hj : j < n) (hc : w.cell? ⟨b, j, none⟩ = some v) :
    Calls Try.prog 21 #[.pointer (some ⟨fb, 0, none⟩), .int .i64 l, .int .i64 k, .int .i64 j] w fun e w' => e = .returned v ∧ w' = w := by
  go_enter Try.func21, Try.ntmps21
  go_wp2
  go_ret
  exact ⟨rfl, rfl⟩
theorem numbersLen_any (n cap : Nat) (a : Option Addr) (hl : l < 5) (hc : w.cell? ⟨fb, 7 + l * 3 + 1, none⟩ = some (.slice a n cap)) :
    Calls Try.prog 44 #[.pointer (some ⟨fb, 0, none⟩), .int .i64 l] w fun e w' => e = .returned (.int .i64 n) ∧ w' = w := by
  go_enter Try.func44, Try.ntmps44
  go_wp2
  go_ret
  exact ⟨rfl, rfl⟩
theorem number_any (b n c j : Nat) (v : Value) (hl : l < 5) (h0 : w.cell? ⟨fb, 7 + l * 3 + 1, none⟩ = some (.slice (some ⟨b, 0, none⟩) n c)) (hj : j < n) (hc : w.cell? ⟨b, j, none⟩ = some v) :
    Calls Try.prog 45 #[.pointer (some ⟨fb, 0, none⟩), .int .i64 l, .int .i64 j] w fun e w' => e = .returned v ∧ w' = w := by
  go_enter Try.func45, Try.ntmps45
  go_wp2
  go_ret
  exact ⟨rfl, rfl⟩
theorem room_any (v : Value) (hc : w.cell? ⟨fb, 39, none⟩ = some v) :
    Calls Try.prog 42 #[.pointer (some ⟨fb, 0, none⟩)] w fun e w' => e = .returned v ∧ w' = w := by
  go_enter Try.func42, Try.ntmps42
  go_wp2
  go_ret
  exact ⟨rfl, rfl⟩
theorem rootsLen_any (n cap : Nat) (a : Option Addr) (hc : w.cell? ⟨fb, 0, none⟩ = some (.slice a n cap)) :
    Calls Try.prog 38 #[.pointer (some ⟨fb, 0, none⟩)] w fun e w' => e = .returned (.int .i64 n) ∧ w' = w := by
  go_enter Try.func38, Try.ntmps38
  go_wp2
  go_ret
  exact ⟨rfl, rfl⟩
theorem runsLen_any (n cap : Nat) (a : Option Addr) (hc : w.cell? ⟨fb, 1, none⟩ = some (.slice a n cap)) :
    Calls Try.prog 40 #[.pointer (some ⟨fb, 0, none⟩)] w fun e w' => e = .returned (.int .i64 n) ∧ w' = w := by
  go_enter Try.func40, Try.ntmps40
  go_wp2
  go_ret
  exact ⟨rfl, rfl⟩
theorem root_any (b n c j : Nat) (v : Value) (h0 : w.cell? ⟨fb, 0, none⟩ = some (.slice (some ⟨b, 0, none⟩) n c)) (hj : j < n) (hc : w.cell? ⟨b, j, none⟩ = some v) :
    Calls Try.prog 39 #[.pointer (some ⟨fb, 0, none⟩), .int .i64 j] w fun e w' => e = .returned v ∧ w' = w := by
  go_enter Try.func39, Try.ntmps39
  go_wp2
  go_ret
  exact ⟨rfl, rfl⟩
end
set_option maxHeartbeats 400000 in
/-- setUnfree (43), and the two exported ones (16, 23). -/
theorem setUnfree_any (fb l n i : Nat) (F : FC) (ob cap : Nat) (bs : List Nat) (rs : List (List Nat)) (w : World) (hl : l < 5)
    (h0 : Blk w fb F.cells 88) (h1 : F.n l = .int .i64 n) (h2 : F.words l = .slice (some ⟨ob, 0, none⟩) rs.length cap) (hn : n ≤ 1048576) (hn1 : 1 ≤ n) (hi : i ≤ 1048576) (hlr : rs.length ≤ 64)
    (hr : RowsAt w ob bs rs) (hfb : fb ∉ bs) (hfo : fb ≠ ob) (hin : InRows rs i) (hw : ∀ ws ∈ rs, ∀ x ∈ ws, x < 2 ^ 64) :
    Calls Try.prog 43 #[.pointer (some ⟨fb, 0, none⟩), .int .i8 l, .int .i32 i] w fun e' w' => (∃ v, e' = .returned v) ∧ Blk w' fb { F with n := upd F.n l (.int .i64 ((n : Int) - 1)) }.cells 88 ∧ RowsAt w' ob bs (remRows rs i) ∧ Upd (fb :: bs) w w' := by
  have ha := hide (remove_any fb (7 + l * 3) n i F.cells 88 ob cap bs rs w h0 (by rw [F.get_n l hl, h1]) (by rw [F.get_words l hl, h2]) hn hn1 hi hlr hr hfb hfo hin hw)
  rw [F.set_n l hl] at ha
  go_enter Try.func43, Try.ntmps43
  go_wp2_with (go_at_call 54; refine ha.out.mono ?_; rintro e w1 ⟨⟨v, rfl⟩, hb1, hr1, hu1⟩)
  go_end0
  exact ⟨⟨_, rfl⟩, hb1, hr1, hu1⟩
theorem zzSetUnfree {fb l i : Nat} {w : World} {S : World → Prop} (h : Calls Try.prog 43 #[.pointer (some ⟨fb, 0, none⟩), .int .i8 l, .int .i32 i] w fun e w' => (∃ v, e = .returned v) ∧ S w') :
    Calls Try.prog 16 #[.pointer (some ⟨fb, 0, none⟩), .int .i8 l, .int .i32 i] w fun e w' => (∃ v, e = .returned v) ∧ S w' := by
  replace h := hide h
  go_enter Try.func16, Try.ntmps16
  go_wp2_with (go_at_call 43; refine h.out.mono ?_; rintro e w1 ⟨⟨v, rfl⟩, hR⟩)
  go_end0
  exact ⟨⟨_, rfl⟩, hR⟩
theorem zzSetFree {fb l i : Nat} {w : World} {S : World → Prop} (h : Calls Try.prog 46 #[.pointer (some ⟨fb, 0, none⟩), .int .i8 l, .int .i32 i] w fun e w' => (∃ v, e = .returned v) ∧ S w') :
    Calls Try.prog 23 #[.pointer (some ⟨fb, 0, none⟩), .int .i8 l, .int .i32 i] w fun e w' => (∃ v, e = .returned v) ∧ S w' := by
  replace h := hide h
  go_enter Try.func23, Try.ntmps23
  go_wp2_with (go_at_call 46; refine h.out.mono ?_; rintro e w1 ⟨⟨v, rfl⟩, hR⟩)
  go_end0
  exact ⟨⟨_, rfl⟩, hR⟩
theorem bytes7 (a0 a1 a2 a3 : Int) (a : Option Addr) (n cap : Nat) (b : Bool) (hn : n ≤ 9223372036854775807) (w : World) :
    Calls Try.prog 7 #[.int .i64 a0, .int .i64 a1, .int .i64 a2, .int .i64 a3, .slice a n cap, .bool b] w fun e w' => e = .returned (.bool (decide (n ≤ 1048576))) ∧ w' = w := by
  by_cases h : n ≤ 1048576
  · go_enter Try.func7, Try.ntmps7
    go_wp2
    go_ret
    simp [h]
  · go_enter Try.func7, Try.ntmps7
    go_wp2
    go_ret
    simp [h]
theorem bytes17 (a0 a1 a2 a3 : Int) (a : Option Addr) (n cap : Nat) (b : Bool) (hn : n ≤ 9223372036854775807) (w : World) :
    Calls Try.prog 17 #[.int .i64 a0, .int .i64 a1, .int .i64 a2, .int .i64 a3, .slice a n cap, .bool b] w fun e w' => e = .returned (.bool (decide (n ≤ 1048576))) ∧ w' = w := by
  by_cases h : n ≤ 1048576
  · go_enter Try.func17, Try.ntmps17
    go_wp2
    go_ret
    simp [h]
  · go_enter Try.func17, Try.ntmps17
    go_wp2
    go_ret
    simp [h]
end Go.Proofs.Qxb6609507a
