import Derived.RangeFuncNested
import Derived.RangeFuncBox
import Derived.RangeFuncBound
import Derived.RangeFuncCalls
import Derived.RangeFuncLeaves
import Derived.Shelf.Abstract
import Derived.Shelf.RegionOpen
import Derived.WalkKit
import Derived.OwnWalkIn
import Derived.TacticsInMore
import Derived.LoopNIn
import Derived.LoopIn
import Derived.Maps.AppendAt
import Derived.Test.Qxb6612636aBuild
namespace Go.Proofs.Qxb6612636a
set_option linter.unusedVariables false
set_option linter.unusedSimpArgs false
open Go.RowKit Go.Shelf
attribute [local go_sem] Oper.semAt_some

/-- What a round leaves as it lay: all that is no cells, and the boxes of a yield (type 52). -/
def KObj : Obj → Prop
  | .cells _ e _ => e = 52
  | _ => True
structure KeepX (W W' : World) : Prop where
  size : W.heap.size ≤ W'.heap.size
  same : ∀ (k : Nat) (o : Obj), W.heap[k]? = some o → KObj o → W'.heap[k]? = some o
theorem KeepX.refl (W : World) : KeepX W W := ⟨Nat.le_refl _, fun _ _ h _ => h⟩
theorem KeepX.trans {A B C : World} (h : KeepX A B) (k : KeepX B C) : KeepX A C := ⟨Nat.le_trans h.size k.size, fun i o hi ho => k.same i o (h.same i o hi ho) ho⟩
theorem kobj_of {o : Obj} (h : o.isCells = false) : KObj o := by cases o <;> first | trivial | cases h

def Iter {α : Type} (gf : Nat) (lb : Array Value) (ys : List α) (enc : α → Value) (Mem : World → Prop) : Prop :=
  ∀ (n l : Nat) (St : List α → World → Prop) (W : World),
    (∀ xs V o, St xs V → St xs (V.alloc o)) →
    (∀ xs V k o o', W.heap.size ≤ k → V.heap[k]? = some o → o.isCells = false → St xs V → St xs (V.putObj k o')) →
    (∀ xs V, St xs V → Mem V) →
    (∀ m xs x V, St xs V → xs ++ [x] <+: ys → YieldAt Fence.wide m Try.prog l #[enc x] V fun e V' => e = .returned (.bool true) ∧ St (xs ++ [x]) V' ∧ KeepX V V') →
    St [] W →
    CallsIn Fence.wide n Try.prog gf (#[.func (.yield l) #[] #[]] ++ lb) W fun e V => (∃ v, e = .returned v) ∧ St ys V

/-- How a round's body is left. -/
def postX (J : World → Prop) (W : World) : Exit → Act → World → Prop
  | .normal, _, W' => KeepX W W' ∧ J W'
  | _, _, _ => False

theorem range_law {α : Type} {g : Operand} {ps : Array Tmp} {assign body : Code} {Q : Exit → Act → World → Prop} {a : Act} {w : World} {n gf : Nat} {lb : Array Value} {ys : List α} {enc : α → Value} {Mem : World → Prop}
    (hg : a.eval g = .func (.func gf) #[] lb) (eg : ∀ args w, (callFunc gf args).run Try.prog w = .ok (.enter gf args) w) (hit : Iter gf lb ys enc Mem) (hps : ps.size = 1)
    (I : List α → World → Prop) (hIa : ∀ xs V o, I xs V → I xs (V.alloc o))
    (hIp : ∀ xs V k o o', w.heap.size ≤ k → V.heap[k]? = some o → o.isCells = false → I xs V → I xs (V.putObj k o'))
    (hIm : ∀ xs V, I xs V → Mem V) (h0 : I [] w) (A1 : α → Act)
    (hassign : ∀ (l m : Nat) (x : α) (W : World) (K : Act → World → Prop), K (A1 x) W →
      assign.wpIn (Fence.wide.inRound l) m Try.prog (Exit.then K (fun _ _ _ => False)) { tmps := (ps.zip #[enc x]).foldl (fun t (p, v) => t.setIfInBounds p v) a.tmps, defers := [] } W)
    (hbody : ∀ (l m : Nat) (xs : List α) (x : α) (W : World), I xs W → xs ++ [x] <+: ys → body.wpIn (Fence.wide.inRound l) m Try.prog (postX (I (xs ++ [x])) W) (A1 x) W)
    (hdone : ∀ (D : Nat) (W : World), w.heap.size ≤ D → I ys W → W.heap[D]? = some (.deferred (some [])) → Q .normal { a with defers := { target := .collected D, args := #[] } :: a.defers } W) :
    (Code.rangeFunc g ps assign body).wpIn Fence.wide n Try.prog Q a w := by
  refine wpIn_rangeFunc ?_
  intro fn hfn
  obtain ⟨L, hL⟩ : ∃ L : LoopState → Loop, L = fun st => { state := st, pending := none, fn, tmps := a.tmps, params := ps, assign, body, defers := w.heap.size } := ⟨_, rfl⟩
  obtain ⟨D, hD⟩ : ∃ D, w.heap.size = D := ⟨_, rfl⟩
  obtain ⟨l, hl⟩ : ∃ l, D + 1 = l := ⟨_, rfl⟩
  obtain ⟨W1, hW1⟩ : ∃ W1, (w.alloc (.deferred (some []))).alloc (.loop (L .ready)) = W1 := ⟨_, rfl⟩
  have hsz : W1.heap.size = D + 2 := by rw [← hW1, ← hD]; simp
  have r1 : W1.heap[l]? = some (.loop (L .ready)) := by
    have := World.alloc_heap_new (w.alloc (.deferred (some []))) (.loop (L .ready))
    rw [World.size_alloc, hW1, hD, hl] at this; exact this
  have d0 : (w.alloc (.deferred (some []))).heap[D]? = some (.deferred (some [])) := by
    have := World.alloc_heap_new w (.deferred (some [])); rw [hD] at this; exact this
  have d1 : W1.heap[D]? = some (.deferred (some [])) := by
    have := Below.heap_alloc (w.alloc (.deferred (some []))) (.loop (L .ready)) D (by simp; omega)
    rw [hW1, d0] at this; exact this
  have i1 : I [] W1 := by rw [← hW1]; exact hIa _ _ _ (hIa _ _ _ h0)
  refine ⟨l, [{ target := .collected D, args := #[] }], W1, { target := .fn (.func gf) lb, args := #[.func (.yield l) #[] #[]] }, W1, gf, #[.func (.yield l) #[] #[]] ++ lb, W1, ?_, ?_, fun _ _ => trivial, ?_, ?_, ?_⟩
  · rw [← hW1, hL, ← hl, ← hD]; exact run_enterLoop_outer _ _ _ _ _
  · simp only [resolve, hg]
    simp [go_sem]
  · simp [invoke, go_sem, eg]
  · intro h; cases h
  · refine (hit (n - 1) l (fun xs V => I xs V ∧ V.heap[l]? = some (.loop (L .ready)) ∧ V.heap[D]? = some (.deferred (some []))) W1 ?_ ?_ ?_ ?_ ⟨i1, r1, d1⟩).mono ?_
    · rintro xs V o ⟨hi, hr, hd⟩
      exact ⟨hIa _ _ _ hi, (Below.heap_alloc V o l (Array.getElem?_eq_some_iff.1 hr).1).trans hr, (Below.heap_alloc V o D (Array.getElem?_eq_some_iff.1 hd).1).trans hd⟩
    · rintro xs V k o o' hk ho hc ⟨hi, hr, hd⟩
      exact ⟨hIp _ _ _ _ _ (by omega) ho hc hi, (World.putObj_heap_other (by omega)).trans hr, (World.putObj_heap_other (by omega)).trans hd⟩
    · rintro xs V ⟨hi, _⟩; exact hIm _ _ hi
    · rintro m xs x V ⟨hi, hr, hd⟩ hpre
      have hy := run_yield (P := Try.prog) (args := #[enc x]) hr (by rw [hL]; simp [hps])
      have hlt : l < V.heap.size := (Array.getElem?_eq_some_iff.1 hr).1
      rw [hL] at hy
      refine ⟨fn, _, assign, body, hy, roundIn_of_wpIn hfn (hassign l m x V _ ?_)⟩
      clear hy
      refine ⟨_, run_beginRound hr (by rw [hL]), ?_⟩
      obtain ⟨V1, hV1⟩ : ∃ V1, V.putObj l (.loop { L .ready with state := .busy }) = V1 := ⟨_, rfl⟩
      rw [hV1]
      have rb : V1.heap[l]? = some (.loop (L .busy)) := by rw [← hV1, World.putObj_heap_same hlt, hL]
      have iV1 : I xs V1 := by rw [← hV1]; exact hIp _ _ _ _ _ (by omega) hr rfl hi
      refine wpIn_mono (hbody l m xs x V1 iV1 hpre) ?_
      rintro e a3 W3 hp
      cases e with
      | normal =>
        obtain ⟨hk, hi3⟩ := hp
        have r3 := hk.same _ _ rb trivial
        have hend := run_endRound (P := Try.prog) none r3
        refine ⟨_, _, hend, rfl, ⟨hIp _ _ _ _ _ (by omega) r3 rfl hi3, ?_, ?_⟩, ?_, ?_⟩
        · rw [World.putObj_heap_same (Array.getElem?_eq_some_iff.1 r3).1, hL]; rfl
        · rw [World.putObj_heap_other (by omega)]
          refine hk.same _ _ ?_ trivial
          rw [← hV1, World.putObj_heap_other (by omega)]; exact hd
        · have := hk.size; rw [← hV1] at this; simpa using this
        · intro k o hko ho
          by_cases hkl : k = l
          · subst hkl
            rw [World.putObj_heap_same (Array.getElem?_eq_some_iff.1 r3).1, ← hko, hr, hL]; rfl
          · rw [World.putObj_heap_other (fun h => hkl h)]
            refine hk.same _ _ ?_ ho
            rw [← hV1, World.putObj_heap_other (fun h => hkl h)]; exact hko
      | ret => exact hp.elim
      | exit id => exact hp.elim
      | goto t => exact hp.elim
      | panic ch => exact hp.elim
      | outgrown => exact hp.elim
    · rintro e W2 ⟨⟨v, rfl⟩, hi, hr, hd⟩
      refine ⟨none, _, by have := run_endLoop (P := Try.prog) hr (by rw [hL]; simp); rw [hL] at this; exact this, ?_⟩
      refine hdone D _ (by omega) (hIp _ _ _ _ _ (by omega) hr rfl hi) ?_
      rw [World.putObj_heap_other (by omega)]; exact hd


/-- A method as the iterators hand it: its block; whether it has a request. -/
def encM (x : Nat × Bool) : Value := ptr x.1

set_option maxRecDepth 100000 in
set_option maxHeartbeats 2000000 in
/-- slices.Values's closure. -/
theorem values_iter (n0 : Nat) (w0 : World) (Bs g o cap : Nat) (xs : List (Nat × Bool)) (hBs : w0.cell? ⟨Bs, 0, none⟩ = some (.slice (some ⟨g, o, none⟩) xs.length cap)) (hB : Bs < n0) (hg : g < n0)
    (hc : ∀ j (hj : j < xs.length), w0.cell? ⟨g, o + j, none⟩ = some (encM xs[j])) (hlen : xs.length ≤ 2097152) :
    Iter 17 #[.pointer (some ⟨Bs, 0, none⟩)] xs encM (Below n0 w0) := by
  intro n l St W hSa hSp hSm hY h0
  refine callsIn_of_wp Try.func17 rfl trivial ?_ rfl
  simp only [Try.ntmps17, List.size_toArray, List.length_cons, List.length_nil, Nat.reduceAdd, Nat.reduceSub, Array.replicate_succ, Array.replicate_zero, List.push_toArray, List.append_toArray, List.nil_append, List.cons_append]
  have hb0 := hSm _ _ h0
  have hcB : W.cell? ⟨Bs, 0, none⟩ = some (.slice (some ⟨g, o, none⟩) xs.length cap) := (hb0.cell (p := ⟨Bs, 0, none⟩) hB).trans hBs
  gi_wp2
  gi_loopw [7] (fun i wr => ∃ k : Nat, k ≤ xs.length ∧ i = .int .i64 k ∧ St (xs.take k) wr) (fun i _ => xs.length - (intOf i).toNat)
  case atStart => exact ⟨0, Nat.zero_le _, rfl, h0⟩
  case round =>
    obtain ⟨k, hk, rfl, hs⟩ := hrel
    by_cases hlt : k < xs.length
    · have hcx : wr.cell? ⟨g, o + k, none⟩ = some (.pointer (some ⟨xs[k].1, 0, none⟩)) :=
        ((hSm _ _ hs).cell (p := ⟨g, o + k, none⟩) hg).trans (hc k hlt)
      obtain ⟨fn, tmps, assign, body, hy, hR⟩ := hY (n - 1) (xs.take k) xs[k] wr hs (by rw [List.take_append_getElem]; exact List.take_prefix _ _)
      rw [List.take_append_getElem] at hR
      simp only [encM, ptr] at hy
      gi_wp2
      refine ⟨(fun h => by cases h), hR.mono ?_⟩
      rintro e W3 ⟨rfl, hs3, hk3⟩
      gi_wp2
      go_roundw
      case rel => exact ⟨k + 1, by omega, by simp, hs3⟩
      case measure => simp [intOf]; omega
    · obtain rfl : k = xs.length := by omega
      gi_wp2
      go_end0
      exact ⟨⟨_, rfl⟩, by rw [List.take_length] at hs; exact hs⟩

theorem mem_of_pre {α : Type} {ys xs : List α} {x : α} (h : ys ++ [x] <+: xs) : x ∈ xs := h.subset (by simp)

set_option maxRecDepth 100000 in
set_option maxHeartbeats 2000000 in
/-- withRequest's closure over an iterator. -/
theorem filter_iter (n0 : Nat) (w0 : World) (Bm Bs : Nat) (xs : List (Nat × Bool)) (hit : Iter 17 #[.pointer (some ⟨Bs, 0, none⟩)] xs encM (Below n0 w0))
    (hBm : w0.cell? ⟨Bm, 0, none⟩ = some (.func (.func 17) #[] #[.pointer (some ⟨Bs, 0, none⟩)])) (hB : Bm < n0) (hm : ∀ x ∈ xs, MethAt w0 x.1 x.2 ∧ x.1 < n0) :
    Iter 16 #[.pointer (some ⟨Bm, 0, none⟩)] (xs.filter (·.2)) encM (Below n0 w0) := by
  intro n l St W hSa hSp hSm hY h0
  refine callsIn_of_wp_marks Try.func16 rfl trivial ?_ rfl
  simp only [Try.ntmps16, List.size_toArray, List.length_cons, List.length_nil, Nat.reduceAdd, Nat.reduceSub, Array.replicate_succ, Array.replicate_zero, List.push_toArray, List.append_toArray, List.nil_append, List.cons_append]
  have hb0 := hSm _ _ (hSa _ _ (.cells #[.func (.yield l) #[] #[]] 52) h0)
  have hcB : (W.alloc (.cells #[.func (.yield l) #[] #[]] 52)).cell? ⟨Bm, 0, none⟩ = some (.func (.func 17) #[] #[.pointer (some ⟨Bs, 0, none⟩)]) := (hb0.cell (p := ⟨Bm, 0, none⟩) hB).trans hBm
  gi_wp2
  refine range_law (gf := 17) (lb := #[.pointer (some ⟨Bs, 0, none⟩)]) rfl (enters_of Try.func17 (by kernel_rfl) rfl) hit rfl
    (fun ys V => St (ys.filter (·.2)) V ∧ Boxed V W.heap.size 52 (.func (.yield l) #[] #[])) (fun ys V o h => ⟨hSa _ _ _ h.1, h.2.alloc _⟩)
    (fun ys V k o o' hk ho hc h => ⟨hSp _ _ _ _ _ (by simp at hk; omega) ho hc h.1, (World.putObj_heap_other (by simp at hk; omega)).trans h.2⟩) (fun ys V h => hSm _ _ h.1) ⟨hSa _ _ _ h0, Boxed.new _ _ _⟩ ?A ?assign ?body ?done
  case assign =>
    intro l' m x V K hK
    gi_wp2
    exact hK
  case body =>
    rintro l' m ys ⟨b, has⟩ V ⟨hs, hbx⟩ hpre
    have hcy := hbx.cell
    obtain ⟨⟨q, hq, hqs⟩, hblt⟩ := hm _ (mem_of_pre hpre)
    have hcq : V.cell? ⟨b, 6, none⟩ = some (.pointer q) := ((hSm _ _ hs).cell (p := ⟨b, 6, none⟩) hblt).trans hq
    have hpre' := hpre.filter (·.2)
    cases has with
    | true =>
      cases q with
      | none => simp at hqs
      | some q =>
        have hfe : (ys ++ [(b, true)]).filter (·.2) = ys.filter (·.2) ++ [(b, true)] := by simp
        rw [hfe] at hpre'
        obtain ⟨fn, tmps, assign, body, hy, hR⟩ := hY (m - 1) _ (b, true) V hs hpre'
        simp only [encM, ptr] at hy ⊢
        gi_wp2
        refine ⟨(fun h => by cases h), hR.mono ?_⟩
        rintro e W3 ⟨rfl, hs3, hk3⟩
        gi_wp2
        exact ⟨hk3, by rw [hfe]; exact hs3, hk3.same _ _ hbx rfl⟩
    | false =>
      cases q with
      | some q => simp at hqs
      | none =>
        have hfe : (ys ++ [(b, false)]).filter (·.2) = ys.filter (·.2) := by simp
        simp only [encM, ptr]
        gi_wp2
        refine ⟨(fun f hf => nomatch hf), ?_⟩
        gi_wp2
        exact ⟨KeepX.refl _, by rw [hfe]; exact hs, hbx⟩
  case done =>
    rintro D V hD ⟨hs, hbx⟩ hK
    gi_wp2
    refine ⟨by simp, .inl ⟨_, _, rfl, run_takeDeferred hK, ?_⟩⟩
    exact ⟨_, results_none rfl _ _ _, ⟨_, rfl⟩, hSp _ _ _ _ _ (by simp at hD; omega) hK rfl hs⟩

theorem keepX_appended {W w1 : World} {n0 B k m : Nat} {v v' : Value} {xs ys : List Value} {tmp : Obj}
    (hv : Boxed W B 24 v) (hrow : W.ownsRow n0 27 1 v k xs) (hn0 : n0 ≤ W.heap.size) (hB : n0 ≤ B)
    (hown' : w1.ownsRow n0 27 1 v' m ys) (hgrow : (W.alloc tmp).grownBy w1 v.ownBlock) : KeepX W (w1.setCell ⟨B, 0, none⟩ v') := by
  have hK := (hv.appended (by decide) hrow hn0 hB hown' hgrow).2.2.2.1
  refine ⟨hK.size, fun j o hj ho => ?_⟩
  by_cases hc : o.isCells = false
  · exact hK.same j o hj hc
  · obtain ⟨cs, fl, rfl⟩ : ∃ cs fl, o = .cells cs 52 fl := by
      cases o with
      | cells cs e fl => cases ho; exact ⟨cs, fl, rfl⟩
      | _ => exact absurd rfl hc
    have hlt : j < W.heap.size := (Array.getElem?_eq_some_iff.1 hj).1
    have hjB : j ≠ B := by
      rintro rfl
      rw [show W.heap[j]? = _ from hv] at hj; cases hj
    have hjr : some j ≠ v.ownBlock := by
      rcases hrow.2 with ⟨rfl, _⟩ | ⟨g, cap, cur, rfl, _, hgb, _⟩
      · simp [Value.ownBlock]
      · intro e
        obtain rfl : j = g := by simpa [Value.ownBlock] using e
        rw [hgb] at hj; cases hj
    rw [Below.heap_setCell _ _ _ _ hjB, hgrow.block j (by simp; omega) hjr, Below.heap_alloc _ _ _ hlt]
    exact hj

set_option maxRecDepth 100000 in
set_option maxHeartbeats 2000000 in
/-- slices.AppendSeq over the filtered methods. -/
theorem appendSeq_any (w : World) (Bm : Nat) (xs : List (Nat × Bool)) (hit : Iter 16 #[.pointer (some ⟨Bm, 0, none⟩)] xs encM (Below w.heap.size w)) (hlen : xs.length ≤ 2097152) :
    Calls Try.prog 15 #[.slice none 0 0, .func (.func 16) #[] #[.pointer (some ⟨Bm, 0, none⟩)]] w fun e w' => ∃ v, e = .returned v ∧ w'.ownsRow w.heap.size 27 1 v xs.length (xs.map encM) ∧ Below w.heap.size w w' := by
  obtain ⟨i0, hi, hz0, hz1, hz2⟩ := info_parts info27
  refine (callsIn_wide (n := 0)).1 ?_
  refine callsIn_of_wp_marks Try.func15 rfl trivial ?_ rfl
  simp only [Try.ntmps15, List.size_toArray, List.length_cons, List.length_nil, Nat.reduceAdd, Nat.reduceSub, Array.replicate_succ, Array.replicate_zero, List.push_toArray, List.append_toArray, List.nil_append, List.cons_append]
  gi_wp2
  refine range_law (gf := 16) (lb := #[.pointer (some ⟨Bm, 0, none⟩)]) rfl (enters_of Try.func16 (by kernel_rfl) rfl) hit rfl
    (fun ys V => (∃ v, Boxed V w.heap.size 24 v ∧ V.ownsRow w.heap.size 27 1 v ys.length (ys.map encM)) ∧ Below w.heap.size w V)
    (fun ys V o h => ⟨by obtain ⟨⟨v, hv, hr⟩, _⟩ := h; exact ⟨v, hv.alloc _, hr.alloc _⟩, h.2.alloc h.2.size _⟩)
    (fun ys V k o o' hk ho hc h => ⟨by obtain ⟨⟨v, hv, hr⟩, _⟩ := h; exact ⟨v, (World.putObj_heap_other (by simp at hk; omega)).trans hv, ownsRow_putObj hr _ ho hc⟩, by
      refine h.2.grown (grownBy_putObj' V k o') h.2.size (fun j e => ?_)
      cases e; simp at hk; omega⟩)
    (fun ys V h => h.2) ⟨⟨_, Boxed.new _ _ _, World.ownsRow_nil _ _ _ _⟩, (Below.refl _ w).alloc (Nat.le_refl _) _⟩ ?A ?assign ?body ?done
  case assign =>
    intro l' m x V K hK
    gi_wp2
    exact hK
  case body =>
    rintro l' m ys x V ⟨⟨v, hv, hrow⟩, hB⟩ hpre
    have hc := hv.cell
    have hyl : (ys ++ [x]).length ≤ xs.length := hpre.length_le
    have hyl' : ys.length + 1 ≤ xs.length := by simpa using hyl
    simp only [encM, ptr]
    gi_wp2_with (gi_at_builtin; refine wpListIn_append_own _ rfl _ _ 24 rfl w.heap.size 27 i0 (.pointer none) 1 8 Try.underlying24 hi hz0 hz1 hz2 rfl (by decide) _ _ _ rfl (hrow.alloc _) ⟨V.heap.size, 0, none⟩ 1 1 [encM x] rfl rfl (cell_one_new _ _ _) (by simp [Value.oneCell', encM, ptr]) (by unfold maxLen; omega) (by omega) (by have := hB.size; simp; omega) ?_; intro v' w1 hown' hgrow _; obtain ⟨g', cap', rfl⟩ := ownsRow_succ hown'; have hkx := keepX_appended hv hrow hB.size (Nat.le_refl _) hown' hgrow; obtain ⟨hv1, hv2, hr2, hk2, hb2⟩ := hv.appended (by decide) hrow hB.size (Nat.le_refl _) hown' hgrow; have hc1 := hv1.cell; have hf1 := hv1.frozen)
    exact ⟨hkx, ⟨_, hv2, by simpa using hr2⟩, hB.trans hb2⟩
  case done =>
    rintro D V hD ⟨⟨v, hv, hrow⟩, hB⟩ hK
    have hc := hv.cell
    gi_wp2
    refine ⟨by simp, .inl ⟨_, _, rfl, run_takeDeferred hK, ?_⟩⟩
    refine ⟨_, results_tmp rfl _ _ _, v, rfl, ownsRow_putObj hrow _ hK rfl, ?_⟩
    refine hB.grown (grownBy_putObj' V D _) hB.size (fun j e => ?_)
    cases e; simp at hD; omega

set_option maxHeartbeats 1000000 in
theorem values_any (a : Option Addr) (len cap : Nat) (w : World) :
    Calls Try.prog 14 #[.slice a len cap] w fun e w' => e = .returned (.func (.func 17) #[] #[.pointer (some ⟨w.heap.size, 0, none⟩)]) ∧ w' = w.alloc (.cells #[.slice a len cap] 24) := by
  go_enter Try.func14, Try.ntmps14
  go_wp2
  go_ret
  exact ⟨rfl, rfl⟩

set_option maxHeartbeats 1000000 in
theorem withReq_any (cl : Array Value) (w : World) :
    Calls Try.prog 13 #[.func (.func 17) #[] cl] w fun e w' => e = .returned (.func (.func 16) #[] #[.pointer (some ⟨w.heap.size, 0, none⟩)]) ∧ w' = w.alloc (.cells #[.func (.func 17) #[] cl] 35) := by
  go_enter Try.func13, Try.ntmps13
  go_wp2
  go_ret
  exact ⟨rfl, rfl⟩

set_option maxHeartbeats 1000000 in
theorem collect_any (w : World) (Bm : Nat) (xs : List (Nat × Bool)) (hit : Iter 16 #[.pointer (some ⟨Bm, 0, none⟩)] xs encM (Below w.heap.size w)) (hlen : xs.length ≤ 2097152) :
    Calls Try.prog 12 #[.func (.func 16) #[] #[.pointer (some ⟨Bm, 0, none⟩)]] w fun e w' => ∃ v, e = .returned v ∧ w'.ownsRow w.heap.size 27 1 v xs.length (xs.map encM) ∧ Below w.heap.size w w' := by
  go_enter Try.func12, Try.ntmps12
  go_wp2_with (go_at_call 15; refine (appendSeq_any w Bm xs hit hlen).mono ?_; rintro e w1 ⟨v, rfl, hr, hb⟩)
  go_ret
  exact ⟨_, rfl, hr, hb⟩

/-- The methods of a row, with their requests. -/
def Meths (w : World) (g o : Nat) (xs : List (Nat × Bool)) : Prop :=
  (∀ j (hj : j < xs.length), w.cell? ⟨g, o + j, none⟩ = some (encM xs[j])) ∧ (∀ x ∈ xs, MethAt w x.1 x.2 ∧ x.1 < w.heap.size) ∧ g < w.heap.size
theorem Meths.below {w w' : World} {g o : Nat} {xs : List (Nat × Bool)} (h : Meths w g o xs) (hb : Below w.heap.size w w') : Meths w' g o xs :=
  ⟨fun j hj => (hb.cell (p := ⟨g, o + j, none⟩) h.2.2).trans (h.1 j hj), fun x hx => ⟨(h.2.1 x hx).1.below hb (h.2.1 x hx).2, Nat.lt_of_lt_of_le (h.2.1 x hx).2 hb.size⟩, Nat.lt_of_lt_of_le h.2.2 hb.size⟩

set_option maxHeartbeats 1000000 in
theorem zzwith_any (g o cap : Nat) (xs : List (Nat × Bool)) (w : World) (hm : Meths w g o xs) (hlen : xs.length ≤ 2097152) :
    Calls Try.prog 8 #[.slice (some ⟨g, o, none⟩) xs.length cap] w fun e w' => ∃ v B, e = .returned v ∧ w.heap.size ≤ B ∧ w'.ownsRow B 27 1 v (xs.filter (·.2)).length ((xs.filter (·.2)).map encM) ∧ Below w.heap.size w w' := by
  have hl2 : (xs.filter (·.2)).length ≤ 2097152 := Nat.le_trans (List.length_filter_le _ _) hlen
  obtain ⟨W1, hW1⟩ : ∃ W1, w.alloc (.cells #[.slice (some ⟨g, o, none⟩) xs.length cap] 24) = W1 := ⟨_, rfl⟩
  obtain ⟨W2, hW2⟩ : ∃ W2, W1.alloc (.cells #[.func (.func 17) #[] #[.pointer (some ⟨w.heap.size, 0, none⟩)]] 35) = W2 := ⟨_, rfl⟩
  have s1 : W1.heap.size = w.heap.size + 1 := by rw [← hW1]; simp
  have s2 : W2.heap.size = w.heap.size + 2 := by rw [← hW2]; simp [s1]
  have b1 : Below w.heap.size w W1 := by rw [← hW1]; exact (Below.refl _ w).alloc (Nat.le_refl _) _
  have b2 : Below w.heap.size w W2 := by rw [← hW2]; exact b1.alloc (by omega) _
  have c1 : W2.cell? ⟨w.heap.size, 0, none⟩ = some (.slice (some ⟨g, o, none⟩) xs.length cap) := by
    rw [← hW2, World.cell?_alloc_past _ _ _ (by show w.heap.size < W1.heap.size; omega), ← hW1]; exact (Boxed.new _ _ _).cell
  have c2 : W2.cell? ⟨W1.heap.size, 0, none⟩ = some (.func (.func 17) #[] #[.pointer (some ⟨w.heap.size, 0, none⟩)]) := by
    rw [← hW2]; exact (Boxed.new _ _ _).cell
  have m2 := hm.below b2
  have i1 := values_iter W2.heap.size W2 w.heap.size g o cap xs c1 (by omega) m2.2.2 m2.1 hlen
  have i2 := filter_iter W2.heap.size W2 W1.heap.size w.heap.size xs i1 c2 (by omega) m2.2.1
  rw [s1] at i2
  go_enter Try.func8, Try.ntmps8
  go_wp2_with (first | (go_at_call 14; refine (values_any _ _ _ w).mono ?_; rintro e w1 ⟨rfl, hw⟩; rw [hW1] at hw; subst w1) | (go_at_call 13; refine (withReq_any _ W1).mono ?_; rintro e w1 ⟨rfl, hw⟩; rw [hW2] at hw; subst w1) | (go_at_call 12; refine (collect_any W2 _ _ i2 hl2).mono ?_; rintro e w1 ⟨v, rfl, hr, hb⟩))
  go_ret
  exact ⟨_, _, rfl, by omega, hr, b2.trans (hb.mono (by omega))⟩

end Go.Proofs.Qxb6612636a
