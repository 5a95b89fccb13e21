import Derived.Test.Qxb6609507aOps3
namespace Go.Proofs.Qxb6609507a
set_option linter.unusedVariables false
set_option linter.unusedSimpArgs false
open Go.ChangeShapes Go.WideShapes Go.ChangeAt Go.RowKit
theorem Upd.ofBelow {w w' : World} (h : Below w.heap.size w w') : Upd [] w w' := ⟨h.size, fun b hb _ => h.block b hb, fun B _ hs => h.mono hs⟩
/-- The cells of level l in the first j trees. -/
def cntSum (T : Topo) (tl : List Nat) (l j : Nat) : Nat := ((tl.take j).map fun t => cntT T t l).sum
theorem cntSum_succ (T : Topo) (tl : List Nat) (l j : Nat) (h : j < tl.length) : cntSum T tl l (j + 1) = cntSum T tl l j + cntT T tl[j] l := by
  unfold cntSum; rw [← List.take_append_getElem h, List.map_append, List.sum_append]; simp
theorem cntSum_all (T : Topo) (tl : List Nat) (l : Nat) : cntSum T tl l tl.length = Nof T tl l := by unfold cntSum Nof; rw [List.take_length]
theorem cntSum_le (T : Topo) (tl : List Nat) (l j : Nat) : cntSum T tl l j ≤ Nof T tl l := by
  unfold cntSum Nof
  conv => rhs; rw [← List.take_append_drop j tl, List.map_append, List.sum_append]
  omega
theorem Blk.al {w : World} {b : Nat} {cs : List Value} {e : TypeId} (h : Blk w b cs e) (o : Obj) : Blk (w.alloc o) b cs e := h.upd (Upd.alloc [] w o) (by simp)
theorem blk_new' (w : World) (cs : List Value) (e : TypeId) (b : Nat) (h : w.heap.size = b) : Blk (w.alloc (.cells cs.toArray e)) b cs e := h ▸ blk_new w cs e
def Y0 (lo : Nat) : Lay := ⟨fun _ => lo, fun _ => 0, fun _ => 0, fun _ => 0, fun _ => 0, fun _ => 0, fun _ => 0, fun _ => []⟩
theorem start_gen {T : Topo} {N : Nat → Nat} {linked : Bool} {base : Nat} {w0 w5 : World} (h1 : Blk w5 base [.int .i64 T.g, .int .i64 T.p, .int .i64 T.s, .int .i64 T.n] 38) (h2 : Blk w5 (base + 1) [.bool linked] 4) (h3 : Blk w5 (base + 2) ((Y0 (loOf base linked)).fc T N linked base 0).cells 88)
    (h4 : Blk w5 (base + 3) [.pointer (some ⟨base + 2, 0, none⟩)] 35) (h5 : linked = true → Blk w5 (base + 4) [nilS, nilS, nilS, nilS, nilS] 99) (hs : loOf base linked ≤ w5.heap.size) (hb : Below base w0 w5) : L1 T N linked base w0 0 (Y0 (loOf base linked)) w5 :=
  ⟨⟨h1, h2, h4⟩, h3, fun h => h5 h, ⟨Nat.le_refl _, fun k hk => by omega, hs, fun k hk => by omega, fun k hk => by omega, fun k hk => by omega, fun _ k hk => by omega⟩, hb⟩
/-- The round's pieces put to the others. -/
def Lay.push (Y : Lay) (l m lv lk ob cap b0 l0 : Nat) (bs : List Nat) : Lay :=
  ⟨fun k => if k = l + 1 then m else Y.mark k, fun k => if k = l then lv else Y.lv k, fun k => if k = l then lk else Y.lk k, fun k => if k = l then ob else Y.ob k, fun k => if k = l then cap else Y.cap k, fun k => if k = l then b0 else Y.b0 k, fun k => if k = l then l0 else Y.l0 k, fun k => if k = l then bs else Y.bs k⟩
theorem Lay.push_fc (Y : Lay) (T : Topo) (N : Nat → Nat) (linked : Bool) (base l m lv lk ob cap b0 l0 : Nat) (bs : List Nat) (F : FC) (hF : Y.fc T N linked base l = F) :
    (Y.push l m lv lk ob cap b0 l0 bs).fc T N linked base (l + 1) = { F with size := upd F.size l (.int .i32 (T.sz l)), fan := upd F.fan l (.int .i32 (T.fan l)), lvl := upd F.lvl l (.slice (some ⟨lv, 0, none⟩) (N l) (N l)), words := upd F.words l (.slice (some ⟨ob, 0, none⟩) (emptyRows (N l)).length cap), nums := upd F.nums l (.slice (some ⟨b0, 0, none⟩) l0 l0), n := upd F.n l (.int .i64 0) } := by
  subst hF
  unfold Lay.fc Lay.push
  simp only [FC.mk.injEq, true_and]
  refine ⟨?_, ?_, ?_, ?_, ?_, ?_⟩ <;> funext k <;> unfold upd
  all_goals
    by_cases hk : k = l
    · subst hk; simp
    · have : (k < l + 1) = (k < l) := by simp; omega
      simp [hk, this]
theorem lkRow_push (Y : Lay) (N : Nat → Nat) (l m lv lk ob cap b0 l0 : Nat) (bs : List Nat) (hl : l < 5) : (lkRow Y N l).set (0 + l) (.slice (some ⟨lk, 0, none⟩) (N l) (N l)) = lkRow (Y.push l m lv lk ob cap b0 l0 bs) N (l + 1) := by
  rw [Nat.zero_add]
  unfold lkRow
  refine range_set _ _ l hl _ ?_ ?_
  · simp [Lay.push]
  · intro k hk
    have : (k < l + 1) = (k < l) := by simp; omega
    simp [Lay.push, hk, this]
theorem Pieces.push {Y : Lay} {N : Nat → Nat} {linked : Bool} {lo l : Nat} {w : World} (h : Pieces Y N linked lo l w) (lv lk ob cap b0 l0 : Nat) (bs : List Nat)
    (h1 : Blk w lv (rowOf CellE.cells cell0 [] (N l)) 93) (h1' : Y.mark l ≤ lv) (h2 : RowsAt w ob bs (emptyRows (N l))) (h2' : ∃ cs fl, w.heap[ob]? = some (.cells cs 54 fl)) (h2'' : ∀ b ∈ ob :: bs, Y.mark l ≤ b)
    (h3 : bs[0]? = some b0 ∧ (emptyRows (N l))[0]?.map List.length = some l0) (h4 : linked = true → Blk w lk (rowOf LinkE.cells link0 [] (N l)) 98 ∧ Y.mark l ≤ lk) : Pieces (Y.push l w.heap.size lv lk ob cap b0 l0 bs) N linked lo (l + 1) w := by
  have hm : ∀ k, k ≤ l → (Y.push l w.heap.size lv lk ob cap b0 l0 bs).mark k = Y.mark k := fun k hk => by unfold Lay.push; simp; omega
  have hm1 : (Y.push l w.heap.size lv lk ob cap b0 l0 bs).mark (l + 1) = w.heap.size := by unfold Lay.push; simp
  have hbl : ∀ b ∈ ob :: bs, b < w.heap.size := by
    intro b hb
    rcases List.mem_cons.1 hb with rfl | hb
    · exact h2.oblt
    · obtain ⟨j, hj, rfl⟩ := List.getElem_of_mem hb
      exact (h2.row j (by rw [← h2.len]; exact hj) hj).lt
  refine ⟨?_, ?_, ?_, ?_, ?_, ?_, ?_⟩
  · rw [hm 0 (by omega)]; exact h.mk0
  · intro k hk
    by_cases hkl : k = l
    · subst hkl; rw [hm1, hm k (by omega)]; exact h.top
    · rw [hm k (by omega), hm (k + 1) (by omega)]; exact h.up k (by omega)
  · rw [hm1]; exact Nat.le_refl _
  · intro k hk
    by_cases hkl : k = l
    · subst hkl; rw [hm1, hm k (by omega)]; simp only [Lay.push, if_true]; exact ⟨h1, h1', h1.lt⟩
    · rw [hm k (by omega), hm (k + 1) (by omega)]; simp only [Lay.push, if_neg hkl]; exact h.cel k (by omega)
  · intro k hk
    by_cases hkl : k = l
    · subst hkl; rw [hm1, hm k (by omega)]; simp only [Lay.push, if_true]; exact ⟨h2, h2', fun b hb => ⟨h2'' b hb, hbl b hb⟩⟩
    · rw [hm k (by omega), hm (k + 1) (by omega)]; simp only [Lay.push, if_neg hkl]; exact h.row k (by omega)
  · intro k hk
    by_cases hkl : k = l
    · subst hkl; simp only [Lay.push, if_true]; exact h3
    · simp only [Lay.push, if_neg hkl]; exact h.hd k (by omega)
  · intro hl k hk
    by_cases hkl : k = l
    · subst hkl; rw [hm1, hm k (by omega)]; simp only [Lay.push, if_true]; exact ⟨(h4 hl).1, (h4 hl).2, (h4 hl).1.lt⟩
    · rw [hm k (by omega), hm (k + 1) (by omega)]; simp only [Lay.push, if_neg hkl]; exact h.lks hl k (by omega)
theorem rowOf_nil {α : Type} (f : α → List Value) (z : List Value) (n : Nat) : rowOf f z ([] : List α) n = (List.replicate n z).flatMap (fun x => x) := by unfold rowOf; simp
def fcNext (F : FC) (T : Topo) (N : Nat → Nat) (l lv ob cap b0 l0 : Nat) : FC := { F with size := upd F.size l (.int .i32 (T.sz l)), fan := upd F.fan l (.int .i32 (T.fan l)), lvl := upd F.lvl l (.slice (some ⟨lv, 0, none⟩) (N l) (N l)), words := upd F.words l (.slice (some ⟨ob, 0, none⟩) (emptyRows (N l)).length cap), nums := upd F.nums l (.slice (some ⟨b0, 0, none⟩) l0 l0), n := upd F.n l (.int .i64 0) }
theorem RowsAt.mem_lt {w : World} {ob : Nat} {bs : List Nat} {rs : List (List Nat)} (h : RowsAt w ob bs rs) : ∀ b ∈ ob :: bs, b < w.heap.size := by
  intro b hb
  rcases List.mem_cons.1 hb with rfl | hb
  · exact h.oblt
  · obtain ⟨j, hj, rfl⟩ := List.getElem_of_mem hb
    exact (h.row j (by rw [← h.len]; exact hj) hj).lt
theorem L1.bel_size {T : Topo} {N : Nat → Nat} {linked : Bool} {base : Nat} {w0 wr0 : World} {l : Nat} {Y : Lay} (h : L1 T N linked base w0 l Y wr0) : base ≤ wr0.heap.size := by have := h.env.fbox.lt; omega
theorem L1.next {T : Topo} {N : Nat → Nat} {linked : Bool} {base : Nat} {w0 wr0 wF : World} {l : Nat} {Y : Lay} (h : L1 T N linked base w0 l Y wr0) (hl : l < 5) {us : List Nat} (hU : Upd us wr0 wF) (hus : ∀ b ∈ us, base ≤ b ∧ b < loOf base linked) {lv lk ob cap b0 l0 : Nat} {bs : List Nat}
    (h1 : Blk wF lv ((List.replicate (N l) cell0).flatMap (fun x => x)) 93) (h1' : wr0.heap.size ≤ lv) (h2 : RowsAt wF ob bs (emptyRows (N l))) (h2' : ∃ cs fl, wF.heap[ob]? = some (.cells cs 54 fl)) (h2'' : ∀ b ∈ ob :: bs, wr0.heap.size ≤ b)
    (h3 : bs[0]? = some b0) (h3' : (emptyRows (N l))[0]?.map List.length = some l0) (h4 : linked = true → Blk wF lk ((List.replicate (N l) link0).flatMap (fun x => x)) 98 ∧ wr0.heap.size ≤ lk)
    (hE : Env T linked base wF) (hF : Blk wF (base + 2) (fcNext (Y.fc T N linked base l) T N l lv ob cap b0 l0).cells 88) (hk : linked = true → Blk wF (base + 4) ((lkRow Y N l).set (0 + l) (.slice (some ⟨lk, 0, none⟩) (N l) (N l))) 99) :
    ∃ Y', L1 T N linked base w0 (l + 1) Y' wF := by
  have ht := h.pcs.top
  refine ⟨Y.push l wF.heap.size lv lk ob cap b0 l0 bs, hE, ?_, fun e => ?_, ?_, ?_⟩
  · rw [Lay.push_fc _ _ _ _ _ _ _ _ _ _ _ _ _ _ _ rfl]; exact hF
  · rw [← lkRow_push Y N l wF.heap.size lv lk ob cap b0 l0 bs hl]; exact hk e
  · refine (h.pcs.upd hU (fun b hb => (hus b hb).2)).push lv lk ob cap b0 l0 bs (by rw [rowOf_nil]; exact h1) (by omega) h2 h2' (fun b hb => Nat.le_trans ht (h2'' b hb)) ⟨h3, h3'⟩ (fun e => ?_)
    rw [rowOf_nil]; exact ⟨(h4 e).1, Nat.le_trans ht (h4 e).2⟩
  · exact h.bel.trans (hU.below base (fun b hb => (hus b hb).1) h.bel_size)
/-- The round's end, where no links are kept. -/
theorem L1.nextU {T : Topo} {N : Nat → Nat} {base : Nat} {w0 wr0 wr w6 w7 w9 w10 : World} {l : Nat} {Y : Lay} (h : L1 T N false base w0 l Y wr0) (hl : l < 5) (u1 : Upd [base + 2] wr0 wr) (n6 : Upd [] wr w6) (u7 : Upd [base + 2] w6 w7) (n9 : Upd [] w7 w9) (u10 : Upd [base + 2] w9 w10) {ob cap b0 l0 : Nat} {bs : List Nat}
    (h1 : Blk w6 wr.heap.size ((List.replicate (N l) cell0).flatMap (fun x => x)) 93) (h2 : RowsAt w9 ob bs (emptyRows (N l))) (h2' : ∃ cs fl, w9.heap[ob]? = some (.cells cs 54 fl)) (h2'' : ∀ b ∈ ob :: bs, w7.heap.size ≤ b)
    (h3 : bs[0]? = some b0) (h3' : (emptyRows (N l))[0]?.map List.length = some l0) (hE : Env T false base w10) (hF : Blk w10 (base + 2) (fcNext (Y.fc T N false base l) T N l wr.heap.size ob cap b0 l0).cells 88) :
    ∃ Y', L1 T N false base w0 (l + 1) Y' w10 := by
  have a0 := h.env.fbox.lt
  have a1 := u1.size; have a2 := n6.size; have a3 := u7.size; have a4 := n9.size; have a5 := u10.size
  have hU : Upd [base + 2] wr0 w10 := u1.trans ((n6.mono (by simp)).trans (u7.trans ((n9.mono (by simp)).trans u10)))
  have hob : ob ∉ [base + 2] := by have := h2'' ob (by simp); simp; omega
  refine h.next (lk := 0) hl hU (by intro b hb; simp [loOf] at *; omega) (((h1.upd u7 (by simp; omega)).upd n9 (by simp)).upd u10 (by simp; omega)) a1 (h2.upd u10 hob (fun b hb => by have := h2'' b (List.mem_cons_of_mem _ hb); simp; omega)) ?_ (fun b hb => by have := h2'' b hb; omega) h3 h3' (fun e => by cases e) hE hF (fun e => by cases e)
  obtain ⟨cs, fl, hx⟩ := h2'
  exact ⟨cs, fl, (u10.same ob h2.oblt hob).trans hx⟩
theorem L1.nextL {T : Topo} {N : Nat → Nat} {base : Nat} {w0 wr0 wr w6 w7 w9 w10 w12 w13 : World} {l : Nat} {Y : Lay} (h : L1 T N true base w0 l Y wr0) (hl : l < 5) (u1 : Upd [base + 2] wr0 wr) (n6 : Upd [] wr w6) (u7 : Upd [base + 2] w6 w7) (n9 : Upd [] w7 w9) (u10 : Upd [base + 2] w9 w10) (n12 : Upd [] w10 w12) (u13 : Upd [base + 4] w12 w13) {ob cap b0 l0 : Nat} {bs : List Nat}
    (h1 : Blk w6 wr.heap.size ((List.replicate (N l) cell0).flatMap (fun x => x)) 93) (h2 : RowsAt w9 ob bs (emptyRows (N l))) (h2' : ∃ cs fl, w9.heap[ob]? = some (.cells cs 54 fl)) (h2'' : ∀ b ∈ ob :: bs, w7.heap.size ≤ b)
    (h3 : bs[0]? = some b0) (h3' : (emptyRows (N l))[0]?.map List.length = some l0) (h4 : Blk w12 w10.heap.size ((List.replicate (N l) link0).flatMap (fun x => x)) 98) (hE : Env T true base w13) (hF : Blk w10 (base + 2) (fcNext (Y.fc T N true base l) T N l wr.heap.size ob cap b0 l0).cells 88)
    (hk : Blk w13 (base + 4) ((lkRow Y N l).set (0 + l) (.slice (some ⟨w10.heap.size, 0, none⟩) (N l) (N l))) 99) :
    ∃ Y', L1 T N true base w0 (l + 1) Y' w13 := by
  have a0 := (h.lkb rfl).lt
  have a1 := u1.size; have a2 := n6.size; have a3 := u7.size; have a4 := n9.size; have a5 := u10.size; have a6 := n12.size; have a7 := u13.size
  have hU1 : Upd [base + 2, base + 4] w10 w13 := (n12.mono (by simp)).trans (u13.mono (by simp))
  have hU : Upd [base + 2, base + 4] wr0 w13 := (u1.mono (by simp)).trans ((n6.mono (by simp)).trans ((u7.mono (by simp)).trans ((n9.mono (by simp)).trans ((u10.mono (by simp)).trans hU1))))
  have hU2 : Upd [base + 2, base + 4] w9 w13 := (u10.mono (by simp)).trans hU1
  have hob : ob ∉ [base + 2, base + 4] := by have := h2'' ob (by simp); simp; omega
  refine h.next hl hU (by intro b hb; simp [loOf] at *; omega) (((h1.upd u7 (by simp; omega)).upd n9 (by simp)).upd hU2 (by simp; omega)) a1 (h2.upd hU2 hob (fun b hb => by have := h2'' b (List.mem_cons_of_mem _ hb); simp; omega)) ?_ (fun b hb => by have := h2'' b hb; omega) h3 h3' (fun _ => ⟨h4.upd u13 (by simp; omega), by omega⟩) hE ((hF.upd n12 (by simp)).upd u13 (by simp)) (fun _ => hk)
  obtain ⟨cs, fl, hx⟩ := h2'
  exact ⟨cs, fl, (hU2.same ob h2.oblt hob).trans hx⟩
end Go.Proofs.Qxb6609507a
