import Derived.Test.Qxb6609507aOps
import Derived.RangeFuncBox
namespace Go.Proofs.Qxb6609507a
set_option linter.unusedVariables false
set_option linter.unusedSimpArgs false
open Go.ChangeShapes Go.WideShapes Go.ChangeAt Go.RowKit

theorem ownsRow_upd {w w' : World} {base e size n : Nat} {v : Value} {xs : List Value} {bs : List Nat} (h : w.ownsRow base e size v n xs) (hu : Upd bs w w') (hn : ∀ g, v.ownBlock = some g → g ∉ bs) : w'.ownsRow base e size v n xs := by
  refine ⟨h.1, ?_⟩
  rcases h.2 with h | ⟨g, cap, cur, rfl, hb, hg, rest⟩
  · exact .inl h
  · exact .inr ⟨g, cap, cur, rfl, hb, (hu.same g (Array.getElem?_eq_some_iff.1 hg).1 (hn g rfl)).trans hg, rest⟩
theorem own_ne {w : World} {base e size n b e' : Nat} {v : Value} {xs cs : List Value} (h : w.ownsRow base e size v n xs) (hb : Blk w b cs e') (hne : e ≠ e') : ∀ g, v.ownBlock = some g → g ≠ b := by
  rintro g hg rfl
  rcases h.2 with ⟨rfl, _⟩ | ⟨g', cap, cur, rfl, _, hgb, _⟩
  · cases hg
  · obtain rfl : g' = g := by simpa [Value.ownBlock] using hg
    rw [show w.heap[g']? = _ from hb] at hgb
    cases hgb
    exact hne rfl
theorem own_ge {w : World} {base e size n : Nat} {v : Value} {xs : List Value} (h : w.ownsRow base e size v n xs) : ∀ g, v.ownBlock = some g → base ≤ g ∧ g < w.heap.size := by
  intro g hg
  rcases h.2 with ⟨rfl, _⟩ | ⟨g', cap, cur, rfl, hb, hgb, _⟩
  · cases hg
  · obtain rfl : g' = g := by simpa [Value.ownBlock] using hg
    exact ⟨hb, (Array.getElem?_eq_some_iff.1 hgb).1⟩

/-- The outer row's cells. -/
def outs (bs : List Nat) (A : List (List Nat)) : List Value := (bs.zip A).map fun x => .slice (some ⟨x.1, 0, none⟩) x.2.length x.2.length
theorem outs_length (bs : List Nat) (A : List (List Nat)) (h : bs.length = A.length) : (outs bs A).length = A.length := by simp [outs, h]
theorem outs_snoc (bs : List Nat) (A : List (List Nat)) (b : Nat) (ws : List Nat) (h : bs.length = A.length) : outs bs A ++ [.slice (some ⟨b, 0, none⟩) ws.length ws.length] = outs (bs ++ [b]) (A ++ [ws]) := by
  simp [outs, List.zip_append h]
def NewInv (w : World) (n : Nat) (nv : Value) (wr : World) : Prop :=
  ∃ (k : Nat) (v : Value) (bs : List Nat) (A : List (List Nat)), nv = .int .i64 k ∧ k ≤ 1048576 ∧ emptyRows n = A ++ emptyRows k ∧ bs.length = A.length ∧ A.length + k ≤ 1048576 ∧ Blk wr (w.heap.size + 1) [v, .slice none 0 0, .int .i64 0] 79 ∧ Blk wr w.heap.size [.slice none 0 0, .slice none 0 0, .int .i64 0] 79 ∧
    wr.ownsRow (w.heap.size + 2) 54 1 v A.length (outs bs A) ∧ (∀ j (h : j < A.length) (h' : j < bs.length), Blk wr bs[j] (A[j].map u64v) 55) ∧ (∀ b ∈ bs, w.heap.size + 2 ≤ b ∧ b < wr.heap.size) ∧ bs.Nodup ∧ Below w.heap.size w wr

theorem row_cells {w : World} {base e g n cap : Nat} {xs : List Value} (h : w.ownsRow base e 1 (.slice (some ⟨g, 0, none⟩) n cap) n xs) : (∀ j, j < n → w.cell? ⟨g, j, none⟩ = xs[j]?) ∧ (∃ cs fl, w.heap[g]? = some (.cells cs e fl)) ∧ base ≤ g := by
  rcases h.2 with ⟨h', _⟩ | ⟨g', cap', cur, h', hb, hg, _, _, hcs, htake⟩
  · simp at h'
  · simp only [Value.slice.injEq, Option.some.injEq, Addr.mk.injEq, and_true, true_and] at h'
    obtain ⟨rfl, rfl⟩ := h'
    refine ⟨fun j hj => ?_, ⟨_, _, hg⟩, hb⟩
    have e1 : (cur.toList.take (n * 1))[j]? = xs[j]? := by rw [htake]
    rw [List.getElem?_take_of_lt (by omega)] at e1
    simp [World.cell?, hg, ← e1]
/-- What newIndexSet hands back: an empty set, in new memory. -/
def NewSet (w : World) (n : Nat) (e : Ending) (w' : World) : Prop :=
  ∃ ob cap bs b0 l0, e = .returned (.agg #[.slice (some ⟨ob, 0, none⟩) (emptyRows n).length cap, .slice (some ⟨b0, 0, none⟩) l0 l0, .int .i64 0]) ∧ RowsAt w' ob bs (emptyRows n) ∧ (∃ cs fl, w'.heap[ob]? = some (.cells cs 54 fl)) ∧ (∀ b ∈ ob :: bs, w.heap.size ≤ b) ∧
    bs[0]? = some b0 ∧ (emptyRows n)[0]?.map List.length = some l0 ∧ Below w.heap.size w w'

set_option maxRecDepth 20000 in
set_option maxHeartbeats 400000 in
theorem new_any (n : Nat) (hn : n ≤ 1048000) (w : World) :
    Calls Try.prog 52 #[.int .i64 n] w fun e' w' => NewSet w n e' w' := by
  obtain ⟨i0, hi, hz0, hz1, hz2⟩ := info_parts info54
  obtain ⟨j0, hj, hy0, hy1, hy2⟩ := info_parts info55
  go_enter Try.func52, Try.ntmps52
  go_wp2
  go_loopw [0] (fun nv wr => NewInv w n nv wr) (fun nv _ => (intOf nv).toNat)
  case atStart =>
    refine ⟨n, .slice none 0 0, [], [], rfl, by omega, by simp, rfl, by simp; omega, ?_, ?_, World.ownsRow_nil _ _ _ _, fun j h => by simp at h, by simp, List.nodup_nil, ((Below.refl _ w).alloc (Nat.le_refl _) _).alloc (by simp) _⟩
    · have := Blk.alloc (w := w.alloc (.cells #[.slice none 0 0, .slice none 0 0, .int .i64 0] 79)) [.slice none 0 0, .slice none 0 0, .int .i64 0] 79
      simpa using this
    · exact (Blk.alloc (w := w) [.slice none 0 0, .slice none 0 0, .int .i64 0] 79).upd (Upd.alloc [] _ _) (by simp)
  case round =>
    obtain ⟨k, v, bs, A, rfl, hk, hem, hlen, hAk, hsb, hrb, hrow, hrows, hbs, hnd, hbel⟩ := hrel
    have HM := hide hem
    have HL := hide hlen
    clear hem hlen
    go_wp2
    obtain ⟨m, hm⟩ : ∃ m, (k + 63) / 64 = m := ⟨_, rfl⟩
    obtain ⟨r, hr⟩ : ∃ r, max m 1 = r := ⟨_, rfl⟩
    have hm1 : m ≤ 16385 := by omega
    have hr1 : r ≤ 16385 := by omega
    rw [show ((k : Int) + 63) / 64 = ((m : Nat) : Int) by omega]
    replace hm := hide hm
    replace hr := hide hr
    have hC0 : Blk wr.drew (w.heap.size + 1) [v, .slice none 0 0, .int .i64 0] 79 := hsb
    refine region_anyD (fun w' => Blk w' (w.heap.size + 1) [v, .slice none 0 0, .int .i64 0] 79) 8 mixed ?_
    refine anyD_take 0 7 (.pointer (some ⟨w.heap.size + 1, 0, none⟩)) rfl rfl (by kernel_rfl) (by kernel_rfl) (by kernel_rfl) (by kernel_rfl) (by decide) rfl (stays_ok rfl fun w' _ => exec_field fo79_0 rfl w') #[true, false, false, false, false, false, false, false, false] rfl ?_
    simp only [Act.put, List.setIfInBounds_toArray, List.set_cons_succ, List.set_cons_zero]
    refine anyD_take 1 8 (v) rfl rfl (by kernel_rfl) (by kernel_rfl) (by kernel_rfl) (by kernel_rfl) (by decide) rfl (stays_ok rfl fun w' hw' => exec_load1 one49 rfl (by rw [Blk.cell hw']; rfl)) #[true, true, false, false, false, false, false, false, false] rfl ?_
    simp only [Act.put, List.setIfInBounds_toArray, List.set_cons_succ, List.set_cons_zero]
    refine anyD_take 2 9 (.int .i64 m) rfl rfl (by kernel_rfl) (by kernel_rfl) (by kernel_rfl) (by kernel_rfl) (by decide) rfl (stays_ok rfl fun _ _ => rfl) #[true, true, true, false, false, false, false, false, false] rfl ?_
    simp only [Act.put, List.setIfInBounds_toArray, List.set_cons_succ, List.set_cons_zero]
    refine anyD_take 3 10 (.int .i64 r) rfl rfl (by kernel_rfl) (by kernel_rfl) (by kernel_rfl) (by kernel_rfl) (by decide) rfl (stays_ok rfl fun w' _ => hr.out ▸ exec_max (n := m) rfl w') #[true, true, true, true, false, false, false, false, false] rfl ?_
    simp only [Act.put, List.setIfInBounds_toArray, List.set_cons_succ, List.set_cons_zero]
    refine anyD_only 4 rfl (by kernel_rfl) hC0 rfl #[true, true, true, true, true, false, false, false, false] rfl ?_
    refine wp_makeN (zc := [.int .u64 0]) (by simp) Try.underlying54 hj hy0 rfl hy1 rfl (by rw [hy2]; omega) (by unfold maxLen; omega) ?_
    intro w1 hb1 hu1 _
    simp only [Act.put, List.setIfInBounds_toArray, List.set_cons_succ, List.set_cons_zero]
    have hC1 : Blk w1 (w.heap.size + 1) [v, .slice none 0 0, .int .i64 0] 79 := hC0.upd hu1 (by simp)
    have hrow1 : w1.ownsRow (w.heap.size + 2) 54 1 v A.length (outs bs A) := ownsRow_upd (w := wr.drew) hrow hu1 (by simp)
    have hsz1 : wr.heap.size + 1 ≤ w1.heap.size := hb1.lt
    refine anyD_only 5 rfl (by kernel_rfl) hC1 rfl #[true, true, true, true, true, true, false, false, false] rfl ?_
    refine wp_build1 Try.underlying49 hi hz0 hz1 rfl rfl ?_
    simp only [Act.put, List.setIfInBounds_toArray, List.set_cons_succ, List.set_cons_zero]
    have hC2 := hC1.upd (Upd.alloc [] w1 (.cells #[.slice (some ⟨wr.heap.size, 0, none⟩) r r] 54)) (by simp)
    have hrow2 := hrow1.alloc (.cells #[.slice (some ⟨wr.heap.size, 0, none⟩) r r] 54)
    have hszr := hsb.lt
    have hbase2 : w.heap.size + 2 ≤ (w1.alloc (.cells #[.slice (some ⟨wr.heap.size, 0, none⟩) r r] 54)).heap.size := by simp; omega
    refine anyD_only 6 rfl (by kernel_rfl) hC2 rfl #[true, true, true, true, true, true, true, false, false] rfl ?_
    refine wp_append_own _ _ _ 49 rfl (w.heap.size + 2) 54 i0 _ 1 24 Try.underlying49 hi hz0 hz1 hz2 rfl (by decide) v A.length (outs bs A) rfl hrow2 ⟨w1.heap.size, 0, none⟩ 1 1 [.slice (some ⟨wr.heap.size, 0, none⟩) r r] rfl rfl (cell_one_new _ _ _) (by simp [Value.oneCell']) (by unfold maxLen; omega) (by omega) hbase2 ?_
    intro v' w3 hown3 hgrow3 _
    simp only [Act.put, List.setIfInBounds_toArray, List.set_cons_succ, List.set_cons_zero]
    have hC3 : Blk w3 (w.heap.size + 1) [v, .slice none 0 0, .int .i64 0] 79 := hC2.upd (Upd.ofGrown (bs := v.ownBlock.toList) hgrow3 (by intro b e; simp [e])) (by intro hx; cases hv : v.ownBlock with | none => simp [hv] at hx | some g => simp [hv] at hx; exact own_ne hrow2 hC2 (by decide) g hv hx.symm)
    obtain ⟨gg, cap', rfl⟩ := ownsRow_succ hown3
    refine anyD_take 7 14 (.pointer (some ⟨w.heap.size + 1, 0, none⟩)) rfl rfl (by kernel_rfl) (by kernel_rfl) (by kernel_rfl) (by kernel_rfl) (by decide) rfl (stays_ok rfl fun w' _ => exec_field fo79_0 rfl w') #[true, true, true, true, true, true, true, true, false] rfl ?_
    simp only [Act.put, List.setIfInBounds_toArray, List.set_cons_succ, List.set_cons_zero]
    refine anyD_only 8 rfl (by kernel_rfl) hC3 rfl #[true, true, true, true, true, true, true, true, true] rfl ?_
    refine wp_store1 (val := .slice (some ⟨gg, 0, none⟩) (A.length + 1) cap') size49 rfl rfl rfl rfl hC3 (by simp) ?_
    intro w4 hb4 hg4
    simp only [Act.put, List.setIfInBounds_toArray, List.set_cons_succ, List.set_cons_zero]
    have U34 : Upd [w.heap.size + 1] w3 w4 := Upd.ofGrown hg4 (by intro b e; cases e; simp)
    have hown4 := ownsRow_upd hown3 U34 (by intro g hg; simp; exact own_ne hown3 hC3 (by decide) g hg)
    have carry : ∀ b cs e, e ≠ 54 → b ≠ w.heap.size + 1 → Blk w1 b cs e → Blk w4 b cs e := by
      intro b cs e he hbn hb
      have h2 := hb.upd (Upd.alloc [] w1 (.cells #[.slice (some ⟨wr.heap.size, 0, none⟩) r r] 54)) (by simp)
      have h3 : Blk w3 b cs e := h2.upd (Upd.ofGrown (bs := v.ownBlock.toList) hgrow3 (by intro b e; simp [e])) (by intro hx; cases hv : v.ownBlock with | none => simp [hv] at hx | some g => simp [hv] at hx; exact own_ne hrow2 h2 (Ne.symm he) g hv hx.symm)
      exact h3.upd U34 (by simpa using hbn)
    have hnew : Blk w4 wr.heap.size ((List.replicate r 0).map u64v) 55 := by
      refine carry _ _ _ (by decide) (by omega) ?_
      have := hb1
      rw [replicate_flat1] at this
      rw [List.map_replicate]; exact this
    have hrb4 : Blk w4 w.heap.size [.slice none 0 0, .slice none 0 0, .int .i64 0] 79 := carry _ _ _ (by decide) (by omega) (Blk.upd (w := wr.drew) hrb hu1 (by simp))
    have hrows4 : Hid (∀ j (h : j < (A ++ [List.replicate r 0]).length) (h' : j < (bs ++ [wr.heap.size]).length), Blk w4 (bs ++ [wr.heap.size])[j] ((A ++ [List.replicate r 0])[j].map u64v) 55) := by
      intro j h h'
      have hl := HL.out
      by_cases hj : j < A.length
      · rw [List.getElem_append_left hj, List.getElem_append_left (show j < bs.length by omega)]
        have hx := hrows j hj (by omega)
        have hbx := hbs bs[j] (List.getElem_mem _)
        exact carry _ _ _ (by decide) (by omega) (Blk.upd (w := wr.drew) hx hu1 (by simp))
      · have hje : j = A.length := by simp at h; omega
        subst hje
        simp only [List.getElem_concat_length, ← hl]
        exact hnew
    have hbel4 : Below w.heap.size w w4 := by
      have h1 : Below w.heap.size w w1 := (hbel.trans ((Below.refl _ wr).drew)).trans (hu1.below _ (by simp) (by show w.heap.size ≤ wr.heap.size; omega))
      have h2 := h1.alloc h1.size (.cells #[.slice (some ⟨wr.heap.size, 0, none⟩) r r] 54)
      have h3 := h2.grown hgrow3 h2.size (fun g hg => by have := (own_ge hrow2 g hg).1; omega)
      exact h3.grown hg4 h3.size (fun g hg => by cases hg; omega)
    have hbs4 : ∀ b ∈ bs ++ [wr.heap.size], w.heap.size + 2 ≤ b ∧ b < w4.heap.size := by
      have hz : wr.heap.size < w4.heap.size := hnew.lt
      intro b hb
      rcases List.mem_append.1 hb with h | h
      · have := hbs b h; omega
      · obtain rfl : b = wr.heap.size := by simpa using h
        omega
    have hnd4 : (bs ++ [wr.heap.size]).Nodup := by
      refine List.nodup_append.2 ⟨hnd, by simp, ?_⟩
      intro b hb c hc
      obtain rfl : c = wr.heap.size := by simpa using hc
      have := (hbs b hb).2
      omega
    rw [show outs bs A ++ [Value.slice (some ⟨wr.heap.size, 0, none⟩) r r] = outs (bs ++ [wr.heap.size]) (A ++ [List.replicate r 0]) by have := outs_snoc bs A wr.heap.size (List.replicate r 0) HL.out; simpa using this] at hown4
    replace hown4 := hide hown4
    replace hnd4 := hide hnd4
    replace hbs4 := hide hbs4
    have hlen4 : Hid ((bs ++ [wr.heap.size]).length = (A ++ [List.replicate r 0]).length) := by have := HL.out; unfold Hid; simp; omega
    simp only [List.set_cons_zero] at hb4
    clear hb1 hu1 hC1 hC2 hC3 hrow1 hrow2 hown3 hgrow3 hg4 U34 carry hrows hbs hnd hrow hC0 hsb hrb hnew
    refine anyD_done (by kernel_rfl) rfl ?_
    by_cases hm2 : m ≤ 1
    · obtain ⟨RC, ⟨csg, flg, hgg⟩, hgb⟩ := row_cells hown4.out
      obtain ⟨bs', hbs'⟩ : ∃ bs', bs ++ [wr.heap.size] = bs' := ⟨_, rfl⟩
      obtain ⟨R, hR⟩ : ∃ R, A ++ [List.replicate r 0] = R := ⟨_, rfl⟩
      have hRl : R.length = A.length + 1 := by rw [← hR]; simp
      rw [hbs'] at hlen4 hnd4 hbs4
      rw [hR] at hlen4
      have hrow5 : ∀ j (h : j < R.length) (h' : j < bs'.length), Blk w4 bs'[j] (R[j].map u64v) 55 := by subst hbs'; subst hR; exact hrows4.out
      have hcell : ∀ j (h : j < R.length) (h' : j < bs'.length), w4.cell? ⟨gg, j, none⟩ = some (.slice (some ⟨bs'[j], 0, none⟩) R[j].length R[j].length) := by
        intro j h h'
        rw [RC j (by omega), hbs', hR]
        have hz : (bs'.zip R)[j]? = some (bs'[j], R[j]) := by rw [List.getElem?_eq_getElem (by simp; omega), List.getElem_zip]
        simp [outs, hz]
      have hER : emptyRows n = R := by
        rw [HM.out, ← hR]
        conv => lhs; rw [emptyRows]
        rw [dif_pos (by rw [hm.out]; exact hm2), hm.out, hr.out]
      have hout : gg ∉ bs' := by
        intro hx
        obtain ⟨j, hj, hje⟩ := List.getElem_of_mem hx
        have := hrow5 j (by have := hlen4.out; omega) hj
        rw [hje] at this
        rw [show w4.heap[gg]? = _ from this] at hgg
        cases hgg
      have hR4 : RowsAt w4 gg bs' R := ⟨hlen4.out, hnd4.out, hout, hcell, hrow5, (Array.getElem?_eq_some_iff.1 hgg).1⟩
      have h0b : 0 < bs'.length := by have := hlen4.out; omega
      have hc0 : w4.cell? ⟨gg, 0, none⟩ = some (.slice (some ⟨bs'[0], 0, none⟩) (R[0]'(by omega)).length (R[0]'(by omega)).length) := hcell 0 (by omega) h0b
      have hg0 : bs'[0]? = some bs'[0] := List.getElem?_eq_getElem h0b
      have hl0 : R[0]?.map List.length = some (R[0]'(by omega)).length := by rw [List.getElem?_eq_getElem (by omega)]; rfl
      generalize bs'[0] = b0 at hc0 hg0
      generalize (R[0]'(by omega)).length = l0 at hc0 hl0
      have cs0 : w4.cell? ⟨w.heap.size + 1, 0, none⟩ = some (.slice (some ⟨gg, 0, none⟩) (A.length + 1) cap') := by rw [hb4.cell]; rfl
      have cs1 : w4.cell? ⟨w.heap.size + 1, 1, none⟩ = some (.slice none 0 0) := by rw [hb4.cell]; rfl
      have cz1 := hb4.frozen 1
      have hb5 := hide (hb4.setCell 1 (.slice (some ⟨b0, 0, none⟩) l0 l0))
      have hrb5 := hide (hrb4.setOther (show w.heap.size ≠ w.heap.size + 1 by omega) 1 (.slice (some ⟨b0, 0, none⟩) l0 l0))
      have hu5 : Upd [w.heap.size, w.heap.size + 1] w4 (w4.setCell ⟨w.heap.size + 1, 1, none⟩ (.slice (some ⟨b0, 0, none⟩) l0 l0)) := Upd.setCell w4 (w.heap.size + 1) 1 _ (by simp)
      have HGG := hide hgg
      clear RC hown4 hrows4 hrow5 hcell hgg hb4 hrb4
      go_wp2_with (first
        | ((with_reducible refine gd_load 79 (.tmp 3) ?_); refine wpl_load rfl agg79 size79 [.slice (some ⟨gg, 0, none⟩) (A.length + 1) cap', .slice (some ⟨b0, 0, none⟩) l0 l0, .int .i64 0] rfl (blkCells hb5.out) ?_)
        | ((with_reducible refine gd_store 79 (.tmp 2) (.tmp 22) ?_); refine wpl_store rfl [.slice (some ⟨gg, 0, none⟩) (A.length + 1) cap', .slice (some ⟨b0, 0, none⟩) l0 l0, .int .i64 0] rfl size79 rfl _ hrb5.out (by simp) (by simp [Value.oneCell']) ?_; intro w6 hb6 hg6))
      have hu6 : Upd [w.heap.size, w.heap.size + 1] w4 w6 := hu5.trans (Upd.ofGrown hg6 (by intro b e; cases e; simp))
      refine bodyPost_ret (results_cell rfl rfl agg79 size79 [.slice (some ⟨gg, 0, none⟩) (A.length + 1) cap', .slice (some ⟨b0, 0, none⟩) l0 l0, .int .i64 0] rfl (blkCells (by simpa using hb6))) rfl ?_
      have hng : gg ∉ [w.heap.size, w.heap.size + 1] := by simp; omega
      refine ⟨gg, cap', bs', b0, l0, by rw [hER, hRl], ?_, ?_, ?_, hg0, by rw [hER]; exact hl0, hbel4.trans (hu6.below _ (by intro b hb; simp at hb; omega) hbel4.size)⟩
      · rw [hER]
        refine hR4.upd hu6 hng fun b hb => ?_
        have := (hbs4.out b hb).1
        simp; omega
      · exact ⟨csg, flg, (hu6.same gg hR4.oblt hng).trans HGG.out⟩
      · intro b hb
        rcases List.mem_cons.1 hb with rfl | hb
        · omega
        · have := (hbs4.out b hb).1; omega
    · go_wp2
      go_roundw
      case rel =>
        refine ⟨m, .slice (some ⟨gg, 0, none⟩) (A.length + 1) cap', bs ++ [wr.heap.size], A ++ [List.replicate r 0], rfl, by omega, ?_, hlen4.out, ?_, hb4, hrb4, by simpa using hown4.out, hrows4.out, hbs4.out, hnd4.out, hbel4⟩
        · rw [HM.out]
          conv => lhs; rw [emptyRows]
          rw [dif_neg (by rw [hm.out]; exact hm2), hm.out, hr.out]; simp
        · have := hm.out; simp; omega
      case measure => have := hm.out; simp [intOf]; omega
end Go.Proofs.Qxb6609507a
