import Derived.Test.Qxb6609507aPlain
namespace Go.Proofs.Qxb6609507a
set_option linter.unusedVariables false
set_option linter.unusedSimpArgs false
open Go.ChangeShapes Go.WideShapes Go.ChangeAt Go.RowKit
/-! ### What growForest's first loop has laid when l rounds are over -/
def nilS : Value := .slice none 0 0
/-- The blocks of each level. -/
structure Lay where
  mark : Nat → Nat
  lv : Nat → Nat
  lk : Nat → Nat
  ob : Nat → Nat
  cap : Nat → Nat
  b0 : Nat → Nat
  l0 : Nat → Nat
  bs : Nat → List Nat
def Lay.fc (Y : Lay) (T : Topo) (N : Nat → Nat) (linked : Bool) (base l : Nat) : FC where
  roots := nilS
  runs := nilS
  lvl := fun k => if k < l then .slice (some ⟨Y.lv k, 0, none⟩) (N k) (N k) else nilS
  words := fun k => if k < l then .slice (some ⟨Y.ob k, 0, none⟩) (emptyRows (N k)).length (Y.cap k) else nilS
  nums := fun k => if k < l then .slice (some ⟨Y.b0 k, 0, none⟩) (Y.l0 k) (Y.l0 k) else nilS
  n := fun _ => .int .i64 0
  lnk := if linked then .pointer (some ⟨base + 4, 0, none⟩) else .pointer none
  inner := fun _ => .int .i32 0
  size := fun k => if k < l then .int .i32 (T.sz k) else .int .i32 0
  fan := fun k => if k < l then .int .i32 (T.fan k) else .int .i32 0
/-- The pieces of the levels below l: they lie in blocks from lo on, round by round. -/
structure Pieces (Y : Lay) (N : Nat → Nat) (linked : Bool) (lo l : Nat) (w : World) : Prop where
  mk0 : lo ≤ Y.mark 0
  up : ∀ k, k < l → Y.mark k ≤ Y.mark (k + 1)
  top : Y.mark l ≤ w.heap.size
  cel : ∀ k, k < l → Blk w (Y.lv k) (rowOf CellE.cells cell0 [] (N k)) 93 ∧ Y.mark k ≤ Y.lv k ∧ Y.lv k < Y.mark (k + 1)
  row : ∀ k, k < l → RowsAt w (Y.ob k) (Y.bs k) (emptyRows (N k)) ∧ (∃ cs fl, w.heap[Y.ob k]? = some (.cells cs 54 fl)) ∧ (∀ b ∈ Y.ob k :: Y.bs k, Y.mark k ≤ b ∧ b < Y.mark (k + 1))
  hd : ∀ k, k < l → (Y.bs k)[0]? = some (Y.b0 k) ∧ (emptyRows (N k))[0]?.map List.length = some (Y.l0 k)
  lks : linked = true → ∀ k, k < l → Blk w (Y.lk k) (rowOf LinkE.cells link0 [] (N k)) 98 ∧ Y.mark k ≤ Y.lk k ∧ Y.lk k < Y.mark (k + 1)
theorem Pieces.ge {Y : Lay} {N : Nat → Nat} {linked : Bool} {lo l : Nat} {w : World} (h : Pieces Y N linked lo l w) : ∀ k, k ≤ l → lo ≤ Y.mark k
  | 0, _ => h.mk0
  | k + 1, hk => Nat.le_trans (h.ge k (by omega)) (h.up k (by omega))
/-- Whatever is written below lo leaves them. -/
theorem Pieces.upd {Y : Lay} {N : Nat → Nat} {linked : Bool} {lo l : Nat} {w w' : World} {us : List Nat} (h : Pieces Y N linked lo l w) (hu : Upd us w w') (hs : ∀ b ∈ us, b < lo) : Pieces Y N linked lo l w' := by
  have hn : ∀ b k, k < l → Y.mark k ≤ b → b ∉ us := fun b k hk hb hx => by have := h.ge k (by omega); have := hs b hx; omega
  refine ⟨h.mk0, h.up, Nat.le_trans h.top hu.size, fun k hk => ?_, fun k hk => ?_, h.hd, fun hl k hk => ?_⟩
  · obtain ⟨h1, h2, h3⟩ := h.cel k hk
    exact ⟨h1.upd hu (hn _ k hk h2), h2, h3⟩
  · obtain ⟨h1, ⟨cs, fl, h2⟩, h3⟩ := h.row k hk
    have ho := hn (Y.ob k) k hk (h3 _ (by simp)).1
    exact ⟨h1.upd hu ho (fun b hb => hn b k hk (h3 b (List.mem_cons_of_mem _ hb)).1), ⟨cs, fl, (hu.same _ h1.oblt ho).trans h2⟩, h3⟩
  · obtain ⟨h1, h2, h3⟩ := h.lks hl k hk
    exact ⟨h1.upd hu (hn _ k hk h2), h2, h3⟩
end Go.Proofs.Qxb6609507a
