import Derived.Test.Qxb6609507aExec
namespace Go.Proofs.Qxb6609507a
open Go.RowKit
set_option linter.unusedVariables false
/-! ### The same, where the class holds till operation s (a store that every reader comes ahead of) has been done -/
section
variable {P : Program} {ops : Array Oper} {md : Region.Mode} {C : World → Prop} {Q : Act → World → Prop} {s : Nat}

def anyD (P : Program) (md : Region.Mode) (ops : Array Oper) (C : World → Prop) (s : Nat) (Q : Act → World → Prop) : Nat → Array Bool → Act → World → Prop
  | 0, listed, a, w => (listed.getD s false = false → C w) ∧ Region.ready md ops listed = [] ∧ Q a w
  | fuel + 1, listed, a, w => (listed.getD s false = false → C w) ∧ (Region.ready md ops listed = [] → Q a w) ∧ ∀ i ∈ Region.ready md ops listed, wpOp P ops Noway i (anyD P md ops C s Q fuel (listed.setIfInBounds i true)) a w

theorem wpAny_of_anyD {Q' : Exit → Act → World → Prop} (hQ : ∀ a w, Q a w → Q' .normal a w) : ∀ (fuel : Nat) (listed : Array Bool) (a : Act) (w : World), anyD P md ops C s Q fuel listed a w → wpAny P md ops Q' fuel listed a w
  | 0, _, _, _, h => ⟨h.2.1, hQ _ _ h.2.2⟩
  | fuel + 1, _, _, _, h => ⟨fun h0 => hQ _ _ (h.2.1 h0), fun i hi => wpOp_mono (fun a w => wpAny_of_anyD hQ fuel _ a w) (wpOp_noway (h.2.2 i hi))⟩

theorem anyD_C {fuel : Nat} {listed : Array Bool} {a : Act} {w : World} (h : anyD P md ops C s Q fuel listed a w) (hs : listed.getD s false = false) : C w := by
  cases fuel <;> exact h.1 hs

theorem getD_set_other {listed : Array Bool} {i s : Nat} (h : i ≠ s) : (listed.setIfInBounds i true).getD s false = listed.getD s false := by
  simp only [Array.getD_eq_getD_getElem?]
  rw [Array.getElem?_setIfInBounds_ne h]

theorem anyD_first {i : Nat} {oi : Oper} {v : Value} (hi : ops[i]? = some oi) (hsel : ∀ (j : Nat) (o : Oper) cs b, ops[j]? = some o → o.op ≠ .select cs b)
    (his : i ≠ s) (hos : ∀ os, ops[s]? = some os → ∃ e ∈ os.after, Region.binds md e = true ∧ e.on = i) :
    ∀ (fuel : Nat) (listed : Array Bool) (a : Act) (w : World), listed.getD s false = false →
      (∀ j oj, ops[j]? = some oj → j ≠ i → listed.getD j true = false → (∀ e ∈ oj.after, Region.binds md e = true → e.on ≠ i) → oi.apart ops oj = true) →
      i ∈ Region.ready md ops listed → StaysIn P ops C oi v a →
      anyD P md ops C s Q fuel (listed.setIfInBounds i true) (a.put oi.dst v) w → anyD P md ops C s Q (fuel + 1) listed a w := by
  intro fuel
  induction fuel with
  | zero =>
    intro listed a w hls _ hr hy H
    have hC := anyD_C H ((getD_set_other his).trans hls)
    refine ⟨fun _ => hC, fun h => (by rw [h] at hr; cases hr), fun j hj => ?_⟩
    by_cases hji : j = i
    · subst hji; exact hy.wpOp hi hC H
    · have := ready_mono hj hji
      rw [H.2.1] at this
      cases this
  | succ fuel ih =>
    intro listed a w hls hfree hr hy H
    have hC := anyD_C H ((getD_set_other his).trans hls)
    refine ⟨fun _ => hC, fun h => (by rw [h] at hr; cases hr), fun j hj => ?_⟩
    by_cases hji : j = i
    · subst hji; exact hy.wpOp hi hC H
    · have h1 := H.2.2 j (ready_mono hj hji)
      obtain ⟨hjun, oj, hoj, hall⟩ := mem_ready.1 hj
      have hnot : ∀ e ∈ oj.after, Region.binds md e = true → e.on ≠ i := fun e he hb heq => by
        have h1 := hall e he hb
        have h0 := (mem_ready.1 hr).1
        rw [heq] at h1
        rcases Nat.lt_or_ge i listed.size with h' | h'
        · simp [h'] at h0 h1; rw [h0] at h1; cases h1
        · simp [Array.getElem?_eq_none h'] at h1
      have hjs : j ≠ s := by
        rintro rfl
        obtain ⟨e, he, hb, heq⟩ := hos oj hoj
        exact hnot e he hb heq
      have h2 := wpOp_putS hoj (hfree j oj hoj hji hjun hnot) (fun cs b => hsel i oi cs b hi) (fun cs b => hsel j oj cs b hoj) hy h1
      have hfree' : ∀ k ok, ops[k]? = some ok → k ≠ i → (listed.setIfInBounds j true).getD k true = false →
          (∀ e ∈ ok.after, Region.binds md e = true → e.on ≠ i) → oi.apart ops ok = true := fun k ok hk hki hun hno => by
        refine hfree k ok hk hki ?_ hno
        by_cases hjk : j = k
        · subst hjk; exact hjun
        · rw [getD_set_ne true hjk] at hun; exact hun
      refine wpOp_mono (fun a' w' h3 => ih (listed.setIfInBounds j true) a' w' ((getD_set_other hjs).trans hls) hfree' (ready_mono hr (Ne.symm hji)) h3.1 ?_) h2
      rw [Array.setIfInBounds_comm _ _ hji]
      exact h3.2

/-- Whether operation s waits for operation i. -/
def waits (md : Region.Mode) (ops : Array Oper) (s i : Nat) : Bool := match ops[s]? with | some os => os.after.any fun e => Region.binds md e && e.on == i | none => true
theorem waits_spec {i : Nat} (h : waits md ops s i = true) : ∀ os, ops[s]? = some os → ∃ e ∈ os.after, Region.binds md e = true ∧ e.on = i := by
  intro os hos
  unfold waits at h
  rw [hos] at h
  obtain ⟨k, hk, he⟩ := Array.any_eq_true.1 h
  simp only [Bool.and_eq_true, beq_iff_eq] at he
  exact ⟨os.after[k], Array.getElem_mem hk, he.1, he.2⟩

theorem anyD_take {fuel : Nat} {listed : Array Bool} {a : Act} {w : World} (i d : Nat) {oi : Oper} (v : Value) (hi : ops[i]? = some oi) (hd : oi.dst = some d)
    (hs : Region.noSelect ops = true) (hf : Region.free md ops listed i = true) (hr : (Region.ready md ops listed).contains i = true)
    (hw : waits md ops s i = true) (his : i ≠ s) (hls : listed.getD s false = false)
    (hy : StaysIn P ops C oi v a) (listed' : Array Bool) (hl : listed.setIfInBounds i true = listed')
    (h : anyD P md ops C s Q fuel listed' (a.put (some d) v) w) : anyD P md ops C s Q (fuel + 1) listed a w :=
  anyD_first hi (Region.noSelect_spec hs) his (waits_spec hw) fuel listed a w hls (Region.free_spec hi hf) (by simpa using hr) hy (hl ▸ hd ▸ h)

theorem anyD_only {fuel : Nat} {listed : Array Bool} {a : Act} {w : World} (i : Nat) {oi : Oper} (hi : ops[i]? = some oi) (hr : Region.ready md ops listed = [i]) (hC : C w)
    (hw : Region.wanted oi (yielded ops a.tmps) = true) (listed' : Array Bool) (hl : listed.setIfInBounds i true = listed')
    (h : oi.wp P a w (anyD P md ops C s Q fuel listed') Noway) : anyD P md ops C s Q (fuel + 1) listed a w := by
  subst hl
  refine ⟨fun _ => hC, fun h0 => (by rw [hr] at h0; cases h0), fun j hj => ?_⟩
  rw [hr] at hj
  obtain rfl : j = i := by simpa using hj
  unfold wpOp
  simp only [hi, hw, if_true]
  exact .inl h

theorem anyD_done {fuel : Nat} {listed : Array Bool} {a : Act} {w : World} (hr : Region.ready md ops listed = []) (hls : listed.getD s false = true) (h : Q a w) : anyD P md ops C s Q fuel listed a w := by
  cases fuel with
  | zero => exact ⟨(fun h0 => by rw [hls] at h0; cases h0), hr, h⟩
  | succ n => exact ⟨fun h0 => (by rw [hls] at h0; cases h0), fun _ => h, by rw [hr]; simp⟩

theorem region_anyD {id : Nat} {Q' : Exit → Act → World → Prop} {a : Act} {w : World} {l : List Oper} (C : World → Prop) (s : Nat) (hm : P.follows .mixedOrders = true)
    (h : anyD P .any l.toArray C s (fun a w => Q' .normal a w) l.length (Array.replicate l.length false) a w.drew) : (Code.region id l.toArray true).wp P Q' a w :=
  wp_region_any hm (by
    have := wpAny_of_anyD (Q' := Q') (fun _ _ h => h) _ _ _ _ h
    simpa using this)
end
end Go.Proofs.Qxb6609507a
