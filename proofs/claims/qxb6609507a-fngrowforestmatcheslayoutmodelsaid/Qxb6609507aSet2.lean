import Derived.Test.Qxb6609507aSet1
import Derived.Test.Qxb6609507aBits3
namespace Go.Proofs.Qxb6609507a
set_option linter.unusedVariables false
set_option linter.unusedSimpArgs false
open Go.ChangeShapes Go.WideShapes Go.ChangeAt Go.RowKit
/-- A free set in memory, the rows of S. -/
structure SetR (fb l nn cnt : Nat) (S : Nat → Bool) (ob cap b0 : Nat) (bs : List Nat) (w : World) : Prop where
  wd : w.cell? ⟨fb, 7 + l * 3, none⟩ = some (.slice (some ⟨ob, 0, none⟩) (setRows nn S).length cap)
  nm : w.cell? ⟨fb, 7 + l * 3 + 1, none⟩ = some (.slice (some ⟨b0, 0, none⟩) (max ((nn + 63) / 64) 1) (max ((nn + 63) / 64) 1))
  n : w.cell? ⟨fb, 7 + l * 3 + 2, none⟩ = some (.int .i64 cnt)
  rows : RowsAt w ob bs (setRows nn S)
  hd : bs[0]? = some b0
/-- A slice of bools that says S below nn. -/
def Wants (w : World) (a : Option Addr) (nn : Nat) (S : Nat → Bool) : Prop := ∀ i, i < nn → ∃ b o, a = some ⟨b, o, none⟩ ∧ w.cell? ⟨b, o + i, none⟩ = some (.bool (S i))
def cntB (S : Nat → Bool) (n : Nat) : Nat := ((List.range n).filter S).length
theorem cntB_succ (S : Nat → Bool) (n : Nat) : cntB S (n + 1) = cntB S n + (if S n then 1 else 0) := by
  unfold cntB; rw [List.range_succ, List.filter_append, List.length_append]
  by_cases h : S n <;> simp [h]
theorem cntB_le (S : Nat → Bool) (n : Nat) : cntB S n ≤ n := by
  unfold cntB; exact Nat.le_trans (List.length_filter_le _ _) (by simp)
theorem SetR.row {fb l nn cnt : Nat} {S : Nat → Bool} {ob cap b0 : Nat} {bs : List Nat} {w : World} (h : SetR fb l nn cnt S ob cap b0 bs w) {k nk : Nat} {Sk : Nat → Bool} (hk : (setRows nn S)[k]? = some (rowOfSet nk Sk)) :
    ∃ b, bs[k]? = some b ∧ w.cell? ⟨ob, k, none⟩ = some (.slice (some ⟨b, 0, none⟩) (max ((nk + 63) / 64) 1) (max ((nk + 63) / 64) 1)) ∧ ∀ j, j < max ((nk + 63) / 64) 1 → w.cell? ⟨b, j, none⟩ = some (.int .u64 (wordOf (fun i => decide (i < nk) && Sk i) j : Nat)) := by
  obtain ⟨hlt, he⟩ := List.getElem?_eq_some_iff.1 hk
  have hb : k < bs.length := by rw [h.rows.len]; exact hlt
  refine ⟨bs[k], List.getElem?_eq_getElem hb, ?_, fun j hj => ?_⟩
  · have := h.rows.outer k hlt hb
    rw [he, rowOfSet_len] at this; exact this
  · have := h.rows.row k hlt hb
    rw [he] at this
    rw [this.cell, List.getElem?_map]
    unfold rowOfSet
    simp [hj, u64v]
end Go.Proofs.Qxb6609507a
