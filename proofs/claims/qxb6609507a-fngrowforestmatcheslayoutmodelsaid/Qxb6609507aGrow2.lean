import Derived.Test.Qxb6609507aGrow1
namespace Go.Proofs.Qxb6609507a
set_option linter.unusedVariables false
set_option linter.unusedSimpArgs false
open Go.ChangeShapes Go.WideShapes Go.ChangeAt Go.RowKit

/-- What growing a tree of level l from any state comes to. -/
def Grows (G : Gs) (T : Topo) (l : Nat) : Prop := ∀ (first : Nat) (par : Int) (s : St) (w : World), Still G T w → Wrote G w s → (∀ k, k < 5 → (s.c k).length + cntT T l k ≤ G.N k) → (∀ k, k ≤ l → (s.k k).length = (s.c k).length) → first + T.sz l ≤ 65536 → -1 ≤ par → par ≤ 65536 →
  Calls Try.prog 53 (#[.int .i8 l, .int .i32 first, .int .i32 par] ++ G.caps) w fun e w' => e = .returned (.pointer (some ⟨G.lv l, (s.c l).length * 6, none⟩)) ∧ Wrote G w' (growP T l first par s) ∧ Upd G.W w w'

theorem cellE_len (x : CellE) : x.cells.length = 6 := rfl
theorem linkE_len (x : LinkE) : x.cells.length = 3 := rfl
theorem cntT_self (T : Topo) (l : Nat) : cntT T l l = 1 := by cases l <;> simp [cntT]

set_option maxRecDepth 20000 in
set_option maxHeartbeats 400000 in
theorem grow0 (G : Gs) (T : Topo) (hG : G.Ok) (hT : T.Ok) : Grows G T 0 := by
  intro first par s w hS hW hroom hlk hfirst hp0 hp1
  have hl : 0 < 5 := by omega
  have hNl := hG.n 0 hl
  have hcl : (s.c 0).length < G.N 0 := by have := hroom 0 hl; have := cntT_self T 0; omega
  have g1 : w.cell? ⟨G.gk, 0, none⟩ = some (.int .i32 (s.c 0).length) := by rw [hW.grown.cell]; simp
  have z1 := hW.grown.frozen 0
  obtain ⟨W1, hW1⟩ : ∃ W1, w.setCell ⟨G.gk, 0, none⟩ (.int .i32 (((s.c 0).length : Int) + 1)) = W1 := ⟨_, rfl⟩
  have hU1 : Upd G.W w W1 := by rw [← hW1]; exact Upd.setCell w G.gk 0 _ (by simp [Gs.W])
  have hS1 := hS.upd hG hU1
  have f1 := hS1.fbox
  have f2 := hS1.levels 0 hl
  have hB1 : Blk W1 (G.lv 0) (rowOf CellE.cells cell0 (s.c 0) (G.N 0)) 93 := (hW.cells 0 hl).upd (bs := [G.gk]) (w' := W1) (by rw [← hW1]; exact Upd.setCell w G.gk 0 _ (by simp)) (by simpa using (hG.gk_lv 0 hl).symm)
  have hfit : (s.c 0).length * 6 + 6 ≤ (rowOf CellE.cells cell0 (s.c 0) (G.N 0)).length := by rw [rowOf_length _ _ 6 cellE_len rfl _ _ (by omega)]; omega
  cases hk : G.linked with
  | false =>
    unfold Gs.caps
    go_enter Try.func53, Try.ntmps53
    go_wp2_with ((with_reducible refine gd_store 93 (.tmp 37) (.tmp 36) ?_); refine wpl_store rfl (CellE.cells ⟨(s.c 0).length, 0, par == -1⟩) rfl size93 rfl _ hB1 hfit (by simp [CellE.cells, Value.oneCell']) ?_; intro W2 hb2 hg2; rw [rowOf_push CellE.cells cell0 6 cellE_len rfl (s.c 0) (G.N 0) hcl] at hb2; have hW2 := hide (hW.pushC hG hl _ hW1 hb2 hg2); have hU2 : Upd G.W w W2 := hU1.trans (Upd.ofGrown hg2 (by intro b e; cases e; exact G.lv_mem hl)); have hS2 := hS.upd hG hU2; have l2 := hS2.lbox; rw [hk] at l2; clear hb2 hg2)
    go_ret
    exact ⟨rfl, hW2.out.noK hk rfl, hU2⟩
  | true =>
    unfold Gs.caps
    go_enter Try.func53, Try.ntmps53
    go_wp2_with (first
      | ((with_reducible refine gd_store 93 (.tmp 37) (.tmp 36) ?_); refine wpl_store rfl (CellE.cells ⟨(s.c 0).length, 0, par == -1⟩) rfl size93 rfl _ hB1 hfit (by simp [CellE.cells, Value.oneCell']) ?_; intro W2 hb2 hg2; rw [rowOf_push CellE.cells cell0 6 cellE_len rfl (s.c 0) (G.N 0) hcl] at hb2; have hW2 := hide (hW.pushC hG hl _ hW1 hb2 hg2); have hU2 : Upd G.W w W2 := hU1.trans (Upd.ofGrown hg2 (by intro b e; cases e; exact G.lv_mem hl)); have hS2 := hS.upd hG hU2; have l2 := hS2.lbox; rw [hk] at l2; clear hb2 hg2; have f3 := hS2.fbox; have f4 := hS2.links hk; have f5 := hS2.lks hk 0 hl; have hB2 : Blk W2 (G.lk 0) (rowOf LinkE.cells link0 (s.k 0) (G.N 0)) 98 := hW2.out.lrows hk 0 hl; have hfit2 : (s.c 0).length * 3 + 3 ≤ (rowOf LinkE.cells link0 (s.k 0) (G.N 0)).length := (by rw [rowOf_length _ _ 3 linkE_len rfl _ _ (by rw [hlk 0 (Nat.le_refl _)]; omega)]; omega))
      | ((with_reducible refine gd_store 98 (.tmp 84) (.tmp 83) ?_); refine wpl_store rfl (LinkE.cells ⟨first, par, -1⟩) rfl size98 rfl _ hB2 hfit2 (by simp [LinkE.cells, Value.oneCell']) ?_; intro W3 hb3 hg3))
    have hlk0 := hlk 0 (Nat.le_refl _)
    rw [← hlk0] at hb3
    rw [rowOf_push LinkE.cells link0 3 linkE_len rfl (s.k 0) (G.N 0) (by omega)] at hb3
    go_ret
    exact ⟨rfl, hW2.out.pushK hG hl hk ⟨first, par, -1⟩ hb3 hg3, hU2.trans (Upd.ofGrown hg3 (by intro b e; cases e; exact G.lk_mem hk hl))⟩
end Go.Proofs.Qxb6609507a
