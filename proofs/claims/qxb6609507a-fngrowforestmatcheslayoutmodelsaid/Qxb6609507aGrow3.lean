import Derived.Test.Qxb6609507aGrow2
namespace Go.Proofs.Qxb6609507a
set_option linter.unusedVariables false
set_option linter.unusedSimpArgs false
open Go.ChangeShapes Go.WideShapes Go.ChangeAt Go.RowKit

section
variable {d : Option Tmp} {ty t : TypeId} {pos : String} {af : Array Edge} {g : Option (Nat × Bool)} {a : Act} {x y : Operand}
theorem exec_sub8 {l : Nat} (hx : a.eval x = .int .i8 ((l : Int) + 1)) (hl : l < 5) (w : World) :
    (execOp a.eval { dst := d, op := .binOp .sub 48 x (.const (.int .i8 1)) t, type := ty, pos := pos, after := af, guard := g }).run Try.prog w = .ok (.value (.int .i8 l)) w := by
  have he : a.eval (.const (.int .i8 1)) = .int .i8 1 := rfl
  simp only [execOp, hx, he]
  simp [go_sem]
  simp [IntKind.wrap, IntKind.bits, IntKind.signed]; omega
theorem exec_nil {p : Addr} (hx : a.eval x = .pointer (some p)) (w : World) :
    (execOp a.eval { dst := d, op := .nilCheck x, type := ty, pos := pos, after := af, guard := g }).run Try.prog w = .ok (.value (.pointer (some p))) w := by
  simp only [execOp, hx]
  simp [go_sem]
theorem exec_arr5 {b o l : Nat} (hx : a.eval x = .pointer (some ⟨b, o, none⟩)) (hy : a.eval y = .int .i8 l) (hl : l < 5) (w : World) :
    (execOp a.eval { dst := d, op := .indexAddr 85 x y, type := ty, pos := pos, after := af, guard := g }).run Try.prog w = .ok (.value (.pointer (some ⟨b, o + l, none⟩))) w := by
  simp only [execOp, hx, hy]
  simp [go_sem, Instr.indexAt, asIntOf, run_underlying Try.underlying85, hl]
theorem exec_mul32 {p q : Nat} (hx : a.eval x = .int .i32 p) (hy : a.eval y = .int .i32 q) (hb : p * q ≤ 2147483647) (w : World) :
    (execOp a.eval { dst := d, op := .binOp .mul 21 x y t, type := ty, pos := pos, after := af, guard := g }).run Try.prog w = .ok (.value (.int .i32 ((p * q : Nat) : Int))) w := by
  simp only [execOp, hx, hy]
  simp [go_sem]
  have : ((p * q : Nat) : Int) ≤ 2147483647 := by omega
  have h0 : (0 : Int) ≤ ((p * q : Nat) : Int) := Int.natCast_nonneg _
  rw [Int.natCast_mul] at this h0
  rw [IntKind.wrap_i32]; omega
theorem exec_add32 {p q : Nat} (hx : a.eval x = .int .i32 p) (hy : a.eval y = .int .i32 q) (hb : p + q ≤ 2147483647) (w : World) :
    (execOp a.eval { dst := d, op := .binOp .add 21 x y t, type := ty, pos := pos, after := af, guard := g }).run Try.prog w = .ok (.value (.int .i32 ((p + q : Nat) : Int))) w := by
  simp only [execOp, hx, hy]
  simp [go_sem]
  rw [IntKind.wrap_i32]; omega
end

theorem one102 : oneB Try.prog 102 = true := by kernel_rfl
theorem one35 : oneB Try.prog 35 = true := by kernel_rfl
theorem one21 : oneB Try.prog 21 = true := by kernel_rfl
theorem plain53 : plainFn Try.prog 53 = true := by kernel_rfl

/-- The first i children grown. -/
def kids (T : Topo) (l first ord : Nat) (s : St) (i : Nat) : St := (List.range i).foldl (fun u i => growP T l (first + i * T.sz l) (ord : Nat) u) s
theorem kids_succ (T : Topo) (l first ord : Nat) (s : St) (i : Nat) : kids T l first ord s (i + 1) = growP T l (first + i * T.sz l) (ord : Nat) (kids T l first ord s i) := by
  unfold kids; rw [List.range_succ, List.foldl_append]; rfl
theorem kids_len (T : Topo) (l first ord : Nat) (s : St) : ∀ (i m : Nat), ((kids T l first ord s i).c m).length = (s.c m).length + i * cntT T l m ∧ ((kids T l first ord s i).k m).length = (s.k m).length + i * cntT T l m
  | 0, m => by simp [kids]
  | i + 1, m => by
    have h1 := kids_len T l first ord s i m
    have h2 := growP_len T l (first + i * T.sz l) (ord : Nat) (kids T l first ord s i) m
    rw [kids_succ, h2.1, h2.2, h1.1, h1.2, Nat.add_mul]
    omega
theorem cntT_above (T : Topo) : ∀ (l k : Nat), l < k → cntT T l k = 0
  | 0, k, h => by unfold cntT; rw [if_neg (by omega)]
  | l + 1, k, h => by unfold cntT; rw [if_neg (by omega), cntT_above T l k (by omega)]; rfl

set_option maxRecDepth 20000 in
set_option maxHeartbeats 400000 in
theorem growS (G : Gs) (T : Topo) (hG : G.Ok) (hT : T.Ok) (l : Nat) (hl : l + 1 < 5) (ih : Grows G T l) : Grows G T (l + 1) := by
  intro first par s w hS hW hroom hlk hfirst hp0 hp1
  have hl' : l < 5 := by omega
  have hNl := hG.n (l + 1) hl
  have hcl : (s.c (l + 1)).length < G.N (l + 1) := by have := hroom (l + 1) hl; have := cntT_self T (l + 1); omega
  have g1 : w.cell? ⟨G.gk, l + 1, none⟩ = some (.int .i32 (s.c (l + 1)).length) := by rw [hW.grown.cell]; simp [hl]
  have z1 := hW.grown.frozen (l + 1)
  obtain ⟨W1, hW1⟩ : ∃ W1, w.setCell ⟨G.gk, l + 1, none⟩ (.int .i32 (((s.c (l + 1)).length : Int) + 1)) = W1 := ⟨_, rfl⟩
  have hU1 : Upd G.W w W1 := by rw [← hW1]; exact Upd.setCell w G.gk (l + 1) _ (by simp [Gs.W])
  have hS1 := hS.upd hG hU1
  have f1 := hS1.fbox
  have f2 := hS1.levels (l + 1) hl
  have hB1 : Blk W1 (G.lv (l + 1)) (rowOf CellE.cells cell0 (s.c (l + 1)) (G.N (l + 1))) 93 := (hW.cells (l + 1) hl).upd (bs := [G.gk]) (w' := W1) (by rw [← hW1]; exact Upd.setCell w G.gk (l + 1) _ (by simp)) (by simpa using (hG.gk_lv (l + 1) hl).symm)
  have hfit : (s.c (l + 1)).length * 6 + 6 ≤ (rowOf CellE.cells cell0 (s.c (l + 1)) (G.N (l + 1))).length := by rw [rowOf_length _ _ 6 cellE_len rfl _ _ (by omega)]; omega
  have hfan : T.fan (l + 1) ≤ 65536 := hT.fan_le _
  have hszs : Hid (T.sz (l + 1) = T.sz l * T.fan (l + 1)) := T.sz_succ l (by omega)
  obtain ⟨s1, hs1⟩ : ∃ s1, s.pushC (l + 1) ⟨(s.c (l + 1)).length, l + 1, par == -1⟩ = s1 := ⟨_, rfl⟩
  have hs1c : Hid (s1.c l = s.c l) := by rw [← hs1]; unfold Hid; simp [St.pushC]
  have hcall : ∀ i, i < T.fan (l + 1) → ∀ w', Still G T w' → Wrote G w' (kids T l first (s.c (l + 1)).length s1 i) → Calls Try.prog 53 (#[.int .i8 l, .int .i32 ((first + i * T.sz l : Nat) : Int), .int .i32 (s.c (l + 1)).length] ++ G.caps) w' fun e w'' => e = .returned (.pointer (some ⟨G.lv l, ((kids T l first (s.c (l + 1)).length s1 i).c l).length * 6, none⟩)) ∧ Wrote G w'' (kids T l first (s.c (l + 1)).length s1 (i + 1)) ∧ Upd G.W w' w'' := by
    intro i hi w' hS' hW'
    have hmul : (i + 1) * T.sz l ≤ T.fan (l + 1) * T.sz l := Nat.mul_le_mul_right _ hi
    have hsz := hszs.out
    rw [Nat.mul_comm (T.sz l)] at hsz
    rw [Nat.add_mul] at hmul
    rw [kids_succ]
    refine ih (first + i * T.sz l) ((s.c (l + 1)).length : Nat) _ w' hS' hW' (fun k hk => ?_) (fun k hk => ?_) (by omega) (by omega) (by omega)
    · rw [(kids_len T l first (s.c (l + 1)).length s1 i k).1, ← hs1]
      have hr := hroom k hk
      by_cases hkl : k = l + 1
      · subst hkl
        rw [cntT_above T l (l + 1) (by omega)]
        simp [St.pushC]; omega
      · unfold cntT at hr
        rw [if_neg hkl] at hr
        have hm2 : (i + 1) * cntT T l k ≤ T.fan (l + 1) * cntT T l k := Nat.mul_le_mul_right _ hi
        rw [Nat.add_mul] at hm2
        simp [St.pushC, hkl]; omega
    · rw [(kids_len T l first (s.c (l + 1)).length s1 i k).1, (kids_len T l first (s.c (l + 1)).length s1 i k).2, ← hs1]
      have := hlk k (by omega)
      have hkl : k ≠ l + 1 := by omega
      simp [St.pushC, hkl, this]
  replace hcall := hide hcall
  cases hk : G.linked with
  | false =>
    unfold Gs.caps
    go_enter Try.func53, Try.ntmps53
    go_wp2_with ((with_reducible refine gd_store 93 (.tmp 37) (.tmp 36) ?_); refine wpl_store rfl (CellE.cells ⟨(s.c (l + 1)).length, l + 1, par == -1⟩) rfl size93 rfl _ hB1 hfit (by simp [CellE.cells, Value.oneCell']) ?_; intro W2 hb2 hg2; rw [rowOf_push CellE.cells cell0 6 cellE_len rfl (s.c (l + 1)) (G.N (l + 1)) hcl] at hb2; have hW2 := hide (hW.pushC hG hl _ hW1 hb2 hg2); rw [hs1] at hW2; have hU2 : Upd G.W w W2 := hU1.trans (Upd.ofGrown hg2 (by intro b e; cases e; exact G.lv_mem hl)); have hS2 := hS.upd hG hU2; have g2 : W2.cell? ⟨G.gk, l, none⟩ = some (.int .i32 (s.c l).length) := (by rw [hW2.out.grown.cell]; simp [hl', hs1c.out]); have f3 := hS2.fbox; have f4 := hS2.fan (l + 1) hl; clear hb2 hg2)
    clear hB1 hfit f1 f2 hS1 hU1 hW1 g1 z1
    go_loopw [50] (fun iv wr => ∃ i : Nat, i ≤ T.fan (l + 1) ∧ iv = .int .i32 i ∧ Wrote G wr (kids T l first (s.c (l + 1)).length s1 i) ∧ Upd G.W w wr) (fun iv _ => T.fan (l + 1) - (intOf iv).toNat)
    case atStart => exact ⟨0, Nat.zero_le _, rfl, hW2.out, hU2⟩
    case round =>
      clear g2 f3 f4 hW2 hS2 hU2
      obtain ⟨i, hi, rfl, hWr, hUr⟩ := hrel
      have hSr : Still G T wr := hS.upd hG hUr
      by_cases hlt : i < T.fan (l + 1)
      · have hmul : i * T.sz l ≤ 2147483647 := by have h1 : i * T.sz l ≤ T.fan (l + 1) * T.sz l := Nat.mul_le_mul_right _ hi; have h2 := hszs.out; rw [Nat.mul_comm (T.sz l)] at h2; omega
        have hadd : first + i * T.sz l ≤ 2147483647 := by have h1 : i * T.sz l ≤ T.fan (l + 1) * T.sz l := Nat.mul_le_mul_right _ hi; have h2 := hszs.out; rw [Nat.mul_comm (T.sz l)] at h2; omega
        have hc1 := hide (hcall.out i hlt)
        go_wp2_with (fail)
        have hSr' : Still G T wr.drew := ⟨hSr.fbox, hSr.wbox, hSr.lbox, hSr.levels, hSr.size, hSr.fan, hSr.links, hSr.lks⟩
        have hWr' : Wrote G wr.drew (kids T l first (s.c (l + 1)).length s1 i) := ⟨hWr.grown, hWr.cells, hWr.lrows⟩
        refine region_anyC (fun w' => Still G T w') mixed ?_
        refine anyC_take 0 53 (.func (.func 53) #[] G.caps) rfl rfl (by kernel_rfl) (by kernel_rfl) (by kernel_rfl) (stays_ok rfl fun w' hw' => exec_load1 one102 rfl hw'.wbox) #[true, false, false, false, false, false, false, false, false, false, false, false, false, false, false, false] rfl ?_
        simp only [Act.put, List.setIfInBounds_toArray, List.set_cons_succ, List.set_cons_zero]
        refine anyC_take 1 54 (.int .i8 ((l : Int) + 1)) rfl rfl (by kernel_rfl) (by kernel_rfl) (by kernel_rfl) (stays_ok rfl fun _ _ => rfl) #[true, true, false, false, false, false, false, false, false, false, false, false, false, false, false, false] rfl ?_
        simp only [Act.put, List.setIfInBounds_toArray, List.set_cons_succ, List.set_cons_zero]
        refine anyC_take 2 55 (.int .i8 l) rfl rfl (by kernel_rfl) (by kernel_rfl) (by kernel_rfl) (stays_ok rfl fun w' _ => exec_sub8 rfl hl' w') #[true, true, true, false, false, false, false, false, false, false, false, false, false, false, false, false] rfl ?_
        simp only [Act.put, List.setIfInBounds_toArray, List.set_cons_succ, List.set_cons_zero]
        refine anyC_take 3 56 (.int .i32 first) rfl rfl (by kernel_rfl) (by kernel_rfl) (by kernel_rfl) (stays_ok rfl fun _ _ => rfl) #[true, true, true, true, false, false, false, false, false, false, false, false, false, false, false, false] rfl ?_
        simp only [Act.put, List.setIfInBounds_toArray, List.set_cons_succ, List.set_cons_zero]
        refine anyC_take 4 57 (.int .i32 i) rfl rfl (by kernel_rfl) (by kernel_rfl) (by kernel_rfl) (stays_ok rfl fun _ _ => rfl) #[true, true, true, true, true, false, false, false, false, false, false, false, false, false, false, false] rfl ?_
        simp only [Act.put, List.setIfInBounds_toArray, List.set_cons_succ, List.set_cons_zero]
        refine anyC_take 5 58 (.pointer (some ⟨G.fb, 0, none⟩)) rfl rfl (by kernel_rfl) (by kernel_rfl) (by kernel_rfl) (stays_ok rfl fun w' hw' => exec_load1 one35 rfl hw'.fbox) #[true, true, true, true, true, true, false, false, false, false, false, false, false, false, false, false] rfl ?_
        simp only [Act.put, List.setIfInBounds_toArray, List.set_cons_succ, List.set_cons_zero]
        refine anyC_take 6 59 (.int .i8 ((l : Int) + 1)) rfl rfl (by kernel_rfl) (by kernel_rfl) (by kernel_rfl) (stays_ok rfl fun _ _ => rfl) #[true, true, true, true, true, true, true, false, false, false, false, false, false, false, false, false] rfl ?_
        simp only [Act.put, List.setIfInBounds_toArray, List.set_cons_succ, List.set_cons_zero]
        refine anyC_take 7 60 (.int .i8 l) rfl rfl (by kernel_rfl) (by kernel_rfl) (by kernel_rfl) (stays_ok rfl fun w' _ => exec_sub8 rfl hl' w') #[true, true, true, true, true, true, true, true, false, false, false, false, false, false, false, false] rfl ?_
        simp only [Act.put, List.setIfInBounds_toArray, List.set_cons_succ, List.set_cons_zero]
        refine anyC_take 8 61 (.pointer (some ⟨G.fb, 0, none⟩)) rfl rfl (by kernel_rfl) (by kernel_rfl) (by kernel_rfl) (stays_ok rfl fun w' _ => exec_nil rfl w') #[true, true, true, true, true, true, true, true, true, false, false, false, false, false, false, false] rfl ?_
        simp only [Act.put, List.setIfInBounds_toArray, List.set_cons_succ, List.set_cons_zero]
        refine anyC_take 9 62 (.pointer (some ⟨G.fb, 0 + 28, none⟩)) rfl rfl (by kernel_rfl) (by kernel_rfl) (by kernel_rfl) (stays_ok rfl fun w' _ => exec_field fo88_6 rfl w') #[true, true, true, true, true, true, true, true, true, true, false, false, false, false, false, false] rfl ?_
        simp only [Act.put, List.setIfInBounds_toArray, List.set_cons_succ, List.set_cons_zero]
        refine anyC_take 10 63 (.pointer (some ⟨G.fb, 0 + 28 + l, none⟩)) rfl rfl (by kernel_rfl) (by kernel_rfl) (by kernel_rfl) (stays_ok rfl fun w' _ => exec_arr5 rfl rfl hl' w') #[true, true, true, true, true, true, true, true, true, true, true, false, false, false, false, false] rfl ?_
        simp only [Act.put, List.setIfInBounds_toArray, List.set_cons_succ, List.set_cons_zero]
        refine anyC_take 11 64 (.int .i32 (T.sz l)) rfl rfl (by kernel_rfl) (by kernel_rfl) (by kernel_rfl) (stays_ok rfl fun w' hw' => exec_load1 one21 rfl (by rw [Nat.zero_add]; exact hw'.size l hl')) #[true, true, true, true, true, true, true, true, true, true, true, true, false, false, false, false] rfl ?_
        simp only [Act.put, List.setIfInBounds_toArray, List.set_cons_succ, List.set_cons_zero]
        refine anyC_take 12 65 (.int .i32 ((i * T.sz l : Nat) : Int)) rfl rfl (by kernel_rfl) (by kernel_rfl) (by kernel_rfl) (stays_ok rfl fun w' _ => exec_mul32 rfl rfl hmul w') #[true, true, true, true, true, true, true, true, true, true, true, true, true, false, false, false] rfl ?_
        simp only [Act.put, List.setIfInBounds_toArray, List.set_cons_succ, List.set_cons_zero]
        refine anyC_take 13 66 (.int .i32 ((first + i * T.sz l : Nat) : Int)) rfl rfl (by kernel_rfl) (by kernel_rfl) (by kernel_rfl) (stays_ok rfl fun w' _ => exec_add32 rfl rfl hadd w') #[true, true, true, true, true, true, true, true, true, true, true, true, true, true, false, false] rfl ?_
        simp only [Act.put, List.setIfInBounds_toArray, List.set_cons_succ, List.set_cons_zero]
        refine anyC_take 14 67 (.int .i32 (s.c (l + 1)).length) rfl rfl (by kernel_rfl) (by kernel_rfl) (by kernel_rfl) (stays_ok rfl fun _ _ => rfl) #[true, true, true, true, true, true, true, true, true, true, true, true, true, true, true, false] rfl ?_
        simp only [Act.put, List.setIfInBounds_toArray, List.set_cons_succ, List.set_cons_zero]
        refine anyC_only 15 rfl (by kernel_rfl) hSr' rfl #[true, true, true, true, true, true, true, true, true, true, true, true, true, true, true, true] rfl ?_
        refine wp_callv 68 plain53 rfl [.int .i8 l, .int .i32 ((first + i * T.sz l : Nat) : Int), .int .i32 (s.c (l + 1)).length] rfl _ (hc1.out wr.drew hSr' hWr') ?_
        rintro e w3 ⟨rfl, hW3, hU3⟩
        refine ⟨_, rfl, ?_⟩
        simp only [Act.put, List.setIfInBounds_toArray, List.set_cons_succ, List.set_cons_zero]
        refine anyC_done (by kernel_rfl) (hSr'.upd hG hU3) ?_
        go_wp2_with (fail)
        go_roundw
        case rel => exact ⟨i + 1, by omega, by simp, hW3, hUr.trans ((Upd.drew _ wr).trans hU3)⟩
        case measure => simp [intOf]; omega
      · obtain rfl : T.fan (l + 1) = i := by omega
        have l2 := hSr.lbox
        rw [hk] at l2
        go_wp2_with (fail)
        go_ret
        refine ⟨rfl, ?_, hUr⟩
        unfold growP
        simp only
        rw [hs1]
        exact hWr.noK hk rfl
  | true =>
    unfold Gs.caps
    go_enter Try.func53, Try.ntmps53
    go_wp2_with ((with_reducible refine gd_store 93 (.tmp 37) (.tmp 36) ?_); refine wpl_store rfl (CellE.cells ⟨(s.c (l + 1)).length, l + 1, par == -1⟩) rfl size93 rfl _ hB1 hfit (by simp [CellE.cells, Value.oneCell']) ?_; intro W2 hb2 hg2; rw [rowOf_push CellE.cells cell0 6 cellE_len rfl (s.c (l + 1)) (G.N (l + 1)) hcl] at hb2; have hW2 := hide (hW.pushC hG hl _ hW1 hb2 hg2); rw [hs1] at hW2; have hU2 : Upd G.W w W2 := hU1.trans (Upd.ofGrown hg2 (by intro b e; cases e; exact G.lv_mem hl)); have hS2 := hS.upd hG hU2; have g2 : W2.cell? ⟨G.gk, l, none⟩ = some (.int .i32 (s.c l).length) := (by rw [hW2.out.grown.cell]; simp [hl', hs1c.out]); have f3 := hS2.fbox; have f4 := hS2.fan (l + 1) hl; clear hb2 hg2)
    clear hB1 hfit f1 f2 hS1 hU1 hW1 g1 z1
    go_loopw [50] (fun iv wr => ∃ i : Nat, i ≤ T.fan (l + 1) ∧ iv = .int .i32 i ∧ Wrote G wr (kids T l first (s.c (l + 1)).length s1 i) ∧ Upd G.W w wr) (fun iv _ => T.fan (l + 1) - (intOf iv).toNat)
    case atStart => exact ⟨0, Nat.zero_le _, rfl, hW2.out, hU2⟩
    case round =>
      clear g2 f3 f4 hW2 hS2 hU2
      obtain ⟨i, hi, rfl, hWr, hUr⟩ := hrel
      have hSr : Still G T wr := hS.upd hG hUr
      by_cases hlt : i < T.fan (l + 1)
      · have hmul : i * T.sz l ≤ 2147483647 := by have h1 : i * T.sz l ≤ T.fan (l + 1) * T.sz l := Nat.mul_le_mul_right _ hi; have h2 := hszs.out; rw [Nat.mul_comm (T.sz l)] at h2; omega
        have hadd : first + i * T.sz l ≤ 2147483647 := by have h1 : i * T.sz l ≤ T.fan (l + 1) * T.sz l := Nat.mul_le_mul_right _ hi; have h2 := hszs.out; rw [Nat.mul_comm (T.sz l)] at h2; omega
        have hc1 := hide (hcall.out i hlt)
        go_wp2_with (fail)
        have hSr' : Still G T wr.drew := ⟨hSr.fbox, hSr.wbox, hSr.lbox, hSr.levels, hSr.size, hSr.fan, hSr.links, hSr.lks⟩
        have hWr' : Wrote G wr.drew (kids T l first (s.c (l + 1)).length s1 i) := ⟨hWr.grown, hWr.cells, hWr.lrows⟩
        refine region_anyC (fun w' => Still G T w') mixed ?_
        refine anyC_take 0 53 (.func (.func 53) #[] G.caps) rfl rfl (by kernel_rfl) (by kernel_rfl) (by kernel_rfl) (stays_ok rfl fun w' hw' => exec_load1 one102 rfl hw'.wbox) #[true, false, false, false, false, false, false, false, false, false, false, false, false, false, false, false] rfl ?_
        simp only [Act.put, List.setIfInBounds_toArray, List.set_cons_succ, List.set_cons_zero]
        refine anyC_take 1 54 (.int .i8 ((l : Int) + 1)) rfl rfl (by kernel_rfl) (by kernel_rfl) (by kernel_rfl) (stays_ok rfl fun _ _ => rfl) #[true, true, false, false, false, false, false, false, false, false, false, false, false, false, false, false] rfl ?_
        simp only [Act.put, List.setIfInBounds_toArray, List.set_cons_succ, List.set_cons_zero]
        refine anyC_take 2 55 (.int .i8 l) rfl rfl (by kernel_rfl) (by kernel_rfl) (by kernel_rfl) (stays_ok rfl fun w' _ => exec_sub8 rfl hl' w') #[true, true, true, false, false, false, false, false, false, false, false, false, false, false, false, false] rfl ?_
        simp only [Act.put, List.setIfInBounds_toArray, List.set_cons_succ, List.set_cons_zero]
        refine anyC_take 3 56 (.int .i32 first) rfl rfl (by kernel_rfl) (by kernel_rfl) (by kernel_rfl) (stays_ok rfl fun _ _ => rfl) #[true, true, true, true, false, false, false, false, false, false, false, false, false, false, false, false] rfl ?_
        simp only [Act.put, List.setIfInBounds_toArray, List.set_cons_succ, List.set_cons_zero]
        refine anyC_take 4 57 (.int .i32 i) rfl rfl (by kernel_rfl) (by kernel_rfl) (by kernel_rfl) (stays_ok rfl fun _ _ => rfl) #[true, true, true, true, true, false, false, false, false, false, false, false, false, false, false, false] rfl ?_
        simp only [Act.put, List.setIfInBounds_toArray, List.set_cons_succ, List.set_cons_zero]
        refine anyC_take 5 58 (.pointer (some ⟨G.fb, 0, none⟩)) rfl rfl (by kernel_rfl) (by kernel_rfl) (by kernel_rfl) (stays_ok rfl fun w' hw' => exec_load1 one35 rfl hw'.fbox) #[true, true, true, true, true, true, false, false, false, false, false, false, false, false, false, false] rfl ?_
        simp only [Act.put, List.setIfInBounds_toArray, List.set_cons_succ, List.set_cons_zero]
        refine anyC_take 6 59 (.int .i8 ((l : Int) + 1)) rfl rfl (by kernel_rfl) (by kernel_rfl) (by kernel_rfl) (stays_ok rfl fun _ _ => rfl) #[true, true, true, true, true, true, true, false, false, false, false, false, false, false, false, false] rfl ?_
        simp only [Act.put, List.setIfInBounds_toArray, List.set_cons_succ, List.set_cons_zero]
        refine anyC_take 7 60 (.int .i8 l) rfl rfl (by kernel_rfl) (by kernel_rfl) (by kernel_rfl) (stays_ok rfl fun w' _ => exec_sub8 rfl hl' w') #[true, true, true, true, true, true, true, true, false, false, false, false, false, false, false, false] rfl ?_
        simp only [Act.put, List.setIfInBounds_toArray, List.set_cons_succ, List.set_cons_zero]
        refine anyC_take 8 61 (.pointer (some ⟨G.fb, 0, none⟩)) rfl rfl (by kernel_rfl) (by kernel_rfl) (by kernel_rfl) (stays_ok rfl fun w' _ => exec_nil rfl w') #[true, true, true, true, true, true, true, true, true, false, false, false, false, false, false, false] rfl ?_
        simp only [Act.put, List.setIfInBounds_toArray, List.set_cons_succ, List.set_cons_zero]
        refine anyC_take 9 62 (.pointer (some ⟨G.fb, 0 + 28, none⟩)) rfl rfl (by kernel_rfl) (by kernel_rfl) (by kernel_rfl) (stays_ok rfl fun w' _ => exec_field fo88_6 rfl w') #[true, true, true, true, true, true, true, true, true, true, false, false, false, false, false, false] rfl ?_
        simp only [Act.put, List.setIfInBounds_toArray, List.set_cons_succ, List.set_cons_zero]
        refine anyC_take 10 63 (.pointer (some ⟨G.fb, 0 + 28 + l, none⟩)) rfl rfl (by kernel_rfl) (by kernel_rfl) (by kernel_rfl) (stays_ok rfl fun w' _ => exec_arr5 rfl rfl hl' w') #[true, true, true, true, true, true, true, true, true, true, true, false, false, false, false, false] rfl ?_
        simp only [Act.put, List.setIfInBounds_toArray, List.set_cons_succ, List.set_cons_zero]
        refine anyC_take 11 64 (.int .i32 (T.sz l)) rfl rfl (by kernel_rfl) (by kernel_rfl) (by kernel_rfl) (stays_ok rfl fun w' hw' => exec_load1 one21 rfl (by rw [Nat.zero_add]; exact hw'.size l hl')) #[true, true, true, true, true, true, true, true, true, true, true, true, false, false, false, false] rfl ?_
        simp only [Act.put, List.setIfInBounds_toArray, List.set_cons_succ, List.set_cons_zero]
        refine anyC_take 12 65 (.int .i32 ((i * T.sz l : Nat) : Int)) rfl rfl (by kernel_rfl) (by kernel_rfl) (by kernel_rfl) (stays_ok rfl fun w' _ => exec_mul32 rfl rfl hmul w') #[true, true, true, true, true, true, true, true, true, true, true, true, true, false, false, false] rfl ?_
        simp only [Act.put, List.setIfInBounds_toArray, List.set_cons_succ, List.set_cons_zero]
        refine anyC_take 13 66 (.int .i32 ((first + i * T.sz l : Nat) : Int)) rfl rfl (by kernel_rfl) (by kernel_rfl) (by kernel_rfl) (stays_ok rfl fun w' _ => exec_add32 rfl rfl hadd w') #[true, true, true, true, true, true, true, true, true, true, true, true, true, true, false, false] rfl ?_
        simp only [Act.put, List.setIfInBounds_toArray, List.set_cons_succ, List.set_cons_zero]
        refine anyC_take 14 67 (.int .i32 (s.c (l + 1)).length) rfl rfl (by kernel_rfl) (by kernel_rfl) (by kernel_rfl) (stays_ok rfl fun _ _ => rfl) #[true, true, true, true, true, true, true, true, true, true, true, true, true, true, true, false] rfl ?_
        simp only [Act.put, List.setIfInBounds_toArray, List.set_cons_succ, List.set_cons_zero]
        refine anyC_only 15 rfl (by kernel_rfl) hSr' rfl #[true, true, true, true, true, true, true, true, true, true, true, true, true, true, true, true] rfl ?_
        refine wp_callv 68 plain53 rfl [.int .i8 l, .int .i32 ((first + i * T.sz l : Nat) : Int), .int .i32 (s.c (l + 1)).length] rfl _ (hc1.out wr.drew hSr' hWr') ?_
        rintro e w3 ⟨rfl, hW3, hU3⟩
        refine ⟨_, rfl, ?_⟩
        simp only [Act.put, List.setIfInBounds_toArray, List.set_cons_succ, List.set_cons_zero]
        refine anyC_done (by kernel_rfl) (hSr'.upd hG hU3) ?_
        go_wp2_with (fail)
        go_roundw
        case rel => exact ⟨i + 1, by omega, by simp, hW3, hUr.trans ((Upd.drew _ wr).trans hU3)⟩
        case measure => simp [intOf]; omega
      · obtain rfl : T.fan (l + 1) = i := by omega
        have l2 := hSr.lbox
        rw [hk] at l2
        have f3 := hSr.fbox
        have f4 := hSr.links hk
        have f5 := hSr.lks hk (l + 1) hl
        have hkl : ((kids T l first (s.c (l + 1)).length s1 (T.fan (l + 1))).k (l + 1)).length = (s.c (l + 1)).length := by
          rw [(kids_len T l first (s.c (l + 1)).length s1 (T.fan (l + 1)) (l + 1)).2, cntT_above T l (l + 1) (by omega), ← hs1, Nat.mul_zero, Nat.add_zero]
          exact hlk (l + 1) (Nat.le_refl _)
        have hB2 := hWr.lrows hk (l + 1) hl
        have hfit2 : (s.c (l + 1)).length * 3 + 3 ≤ (rowOf LinkE.cells link0 ((kids T l first (s.c (l + 1)).length s1 (T.fan (l + 1))).k (l + 1)) (G.N (l + 1))).length := by
          rw [rowOf_length _ _ 3 linkE_len rfl _ _ (by rw [hkl]; omega)]; omega
        replace hkl := hide hkl
        go_wp2_with ((with_reducible refine gd_store 98 (.tmp 84) (.tmp 83) ?_); refine wpl_store rfl (LinkE.cells ⟨first, par, ((s.c l).length : Nat)⟩) rfl size98 rfl _ hB2 hfit2 (by simp [LinkE.cells, Value.oneCell']) ?_; intro W3 hb3 hg3)
        have hp := rowOf_push LinkE.cells link0 3 linkE_len rfl ((kids T l first (s.c (l + 1)).length s1 (T.fan (l + 1))).k (l + 1)) (G.N (l + 1)) (by rw [hkl.out]; omega) ⟨first, par, ((s.c l).length : Nat)⟩
        rw [hkl.out] at hp
        rw [hp] at hb3
        go_ret
        refine ⟨rfl, ?_, hUr.trans (Upd.ofGrown hg3 (by intro b e; cases e; exact G.lk_mem hk hl))⟩
        unfold growP
        simp only
        rw [hs1, hs1c.out]
        exact hWr.pushK hG hl hk _ hb3 hg3
theorem grow_any (G : Gs) (T : Topo) (hG : G.Ok) (hT : T.Ok) : ∀ (l : Nat), l < 5 → Grows G T l
  | 0, _ => grow0 G T hG hT
  | l + 1, hl => growS G T hG hT l hl (grow_any G T hG hT l (by omega))
end Go.Proofs.Qxb6609507a
