import Derived.Test.Qxb6609507aMem
namespace Go.Proofs.Qxb6609507a
open Go.RowKit
/-! ### A REGION THAT DRAWS ITS ORDER, WITH CALLS THAT MAKE MEMORY: whatever yields one value in every world of a class may be taken first; what is left goes in the order that the edges force. -/
def Noway : Exit → Act → World → Prop := fun _ _ _ => False

section
variable {P : Program} {ops : Array Oper} {md : Region.Mode} {C : World → Prop} {Q : Act → World → Prop}

def anyC (P : Program) (md : Region.Mode) (ops : Array Oper) (C : World → Prop) (Q : Act → World → Prop) : Nat → Array Bool → Act → World → Prop
  | 0, listed, a, w => C w ∧ Region.ready md ops listed = [] ∧ Q a w
  | fuel + 1, listed, a, w => C w ∧ (Region.ready md ops listed = [] → Q a w) ∧ ∀ i ∈ Region.ready md ops listed, wpOp P ops Noway i (anyC P md ops C Q fuel (listed.setIfInBounds i true)) a w

theorem wp_noway {o : Oper} {a : Act} {w : World} {K : Act → World → Prop} {Q' : Exit → Act → World → Prop} (h : o.wp P a w K Noway) : o.wp P a w K Q' := by
  unfold Oper.wp at *
  generalize (execOp a.eval o).run P w = r at *
  cases r with
  | ok n w' =>
    cases n <;> simp only [Oper.upon] at h ⊢ <;> first
      | exact h
      | exact Calls.mono h (fun e w'' he => by
          cases e with
          | returned v => exact he
          | panicked c => exact he.elim
          | outgrown => obtain ⟨_, _, hf⟩ := he; exact hf.elim)
  | halt x w' => cases x <;> simp only [Oper.upon] at h ⊢ <;> exact h.elim

theorem wpOp_noway {i : Nat} {a : Act} {w : World} {K : Act → World → Prop} {Q' : Exit → Act → World → Prop} (h : wpOp P ops Noway i K a w) : wpOp P ops Q' i K a w := by
  unfold wpOp at *
  split
  · simpa [*] using h
  · rename_i o ho
    simp only [ho] at h
    split
    · rename_i hw
      simp only [hw, if_true] at h
      rcases h with h | ⟨_, _, _, hf⟩
      · exact .inl (wp_noway h)
      · exact hf.elim
    · rename_i hw; simp only [hw] at h; exact h

theorem wpAny_of_anyC {Q' : Exit → Act → World → Prop} (hQ : ∀ a w, C w → Q a w → Q' .normal a w) : ∀ (fuel : Nat) (listed : Array Bool) (a : Act) (w : World), anyC P md ops C Q fuel listed a w → wpAny P md ops Q' fuel listed a w
  | 0, _, _, _, h => ⟨h.2.1, hQ _ _ h.1 h.2.2⟩
  | fuel + 1, _, _, _, h => ⟨fun h0 => hQ _ _ h.1 (h.2.1 h0), fun i hi => wpOp_mono (fun a w => wpAny_of_anyC hQ fuel _ a w) (wpOp_noway (h.2.2 i hi))⟩

theorem anyC_C {fuel : Nat} {listed : Array Bool} {a : Act} {w : World} (h : anyC P md ops C Q fuel listed a w) : C w := by
  cases fuel <;> exact h.1

theorem YieldsIn.wpOp {i : Nat} {o : Oper} {v : Value} {a : Act} (hi : ops[i]? = some o) (hy : YieldsIn P ops C o v a) {K : Act → World → Prop} {w : World} (hw : C w) (h : ∀ w', C w' → K (a.put o.dst v) w') (hself : K (a.put o.dst v) w) : Go.wpOp P ops Noway i K a w := by
  unfold Go.wpOp
  simp only [hi]
  rcases hy with ⟨hwn, hv⟩ | ⟨hwn, rfl⟩
  · simp only [hwn, if_true]
    refine .inl ?_
    have h3 := hv w hw
    unfold Oper.quietAt at h3
    unfold Oper.wp
    generalize (execOp a.eval o).run P w = r at *
    cases r with
    | ok n w' =>
      cases n <;> simp only [Oper.quietUpon] at h3 <;> simp only [Oper.upon]
      case value u => obtain ⟨rfl, rfl⟩ := h3; exact hself
      case skip => obtain ⟨rfl, rfl⟩ := h3; exact hself
      case enter f args =>
        obtain ⟨rfl, hc⟩ := h3
        exact hc.mono fun e w'' ⟨he, hw''⟩ => by subst he; exact h _ hw''
    | halt x w' => simp only [Oper.quietUpon] at h3
  · simp only [hwn, Bool.false_eq_true, if_false]; exact hself

theorem wpOp_putC {j : Nat} {oi oj : Oper} {v : Value} (hj : ops[j]? = some oj) (hap : oi.apart ops oj = true)
    (hsi : ∀ cs b, oi.op ≠ .select cs b) (hsj : ∀ cs b, oj.op ≠ .select cs b) {K : Act → World → Prop} {a : Act} {w : World}
    (hy : YieldsIn P ops C oi v a) (h : Go.wpOp P ops Noway j K (a.put oi.dst v) w) :
    Go.wpOp P ops Noway j (fun a' w' => YieldsIn P ops C oi v a' ∧ K (a'.put oi.dst v) w') a w := by
  obtain ⟨h1, h2, h3⟩ := Oper.apart_spec hap
  have keep : ∀ (a : Act), YieldsIn P ops C oi v a → ∀ u, YieldsIn P ops C oi v (a.put oj.dst u) := fun a hy u =>
    hy.of_same (execOp_put oi hsi a oj.dst u h3) (wanted_put oi a oj.dst u h3)
  have keepD : ∀ d, YieldsIn P ops C oi v { a with defers := d :: a.defers } := fun d => hy.of_same rfl rfl
  unfold Go.wpOp at *
  simp only [hj] at *
  rw [wanted_put oj a oi.dst v h1] at h
  split
  · rename_i hw
    simp only [hw, if_true] at h
    rcases h with h | ⟨_, _, _, hf⟩
    case inr => exact hf.elim
    refine .inl ?_
    unfold Oper.wp at *
    rw [execOp_put oj hsj a oi.dst v h1] at h
    generalize (execOp a.eval oj).run P w = r at *
    cases r with
    | ok n w' =>
      cases n <;> simp only [Oper.upon] at h ⊢
      case value u => exact ⟨keep a hy u, by rw [← Act.put_comm a v u h2]; exact h⟩
      case skip => exact ⟨keep a hy _, by rw [← Act.put_comm a v undef h2]; exact h⟩
      case defer d =>
        refine ⟨keep _ (keepD d) _, ?_⟩
        rw [← Act.put_comm _ v undef h2, ← Act.put_defers]
        exact h
      case enter f args =>
        refine Calls.mono h fun e w'' he => ?_
        cases e with
        | returned u => exact ⟨keep a hy u, by rw [← Act.put_comm a v u h2]; exact he⟩
        | panicked c => exact he.elim
        | outgrown => obtain ⟨_, _, hf⟩ := he; exact hf.elim
      case row row args => exact Rows.mono h fun u w'' he => ⟨keep a hy u, by rw [← Act.put_comm a v u h2]; exact he⟩
    | halt x w' => cases x <;> simp only [Oper.upon] at h <;> exact h.elim
  · rename_i hw
    simp only [hw] at h
    exact ⟨keep a hy _, by rw [← Act.put_comm a v undef h2]; exact h⟩

/-- May be taken first: yields its value in every world of the class AND LEAVES THAT WORLD ITSELF. -/
def StaysIn (P : Program) (ops : Array Oper) (C : World → Prop) (o : Oper) (v : Value) (a : Act) : Prop :=
  (Region.wanted o (yielded ops a.tmps) = true ∧ ∀ w, C w → (execOp a.eval o).run P w = .ok (.value v) w) ∨
  (Region.wanted o (yielded ops a.tmps) = false ∧ v = undef)
theorem StaysIn.yields {o : Oper} {v : Value} {a : Act} (h : StaysIn P ops C o v a) : YieldsIn P ops C o v a := by
  rcases h with ⟨h1, h2⟩ | h
  · exact .inl ⟨h1, fun w hw => by unfold Oper.quietAt; rw [h2 w hw]; exact ⟨rfl, rfl⟩⟩
  · exact .inr h
theorem StaysIn.of_same {o : Oper} {v : Value} {a a' : Act} (hy : StaysIn P ops C o v a) (he : execOp a'.eval o = execOp a.eval o)
    (hw : Region.wanted o (yielded ops a'.tmps) = Region.wanted o (yielded ops a.tmps)) : StaysIn P ops C o v a' := by
  unfold StaysIn at *
  rw [he, hw]
  exact hy
theorem StaysIn.wpOp {i : Nat} {o : Oper} {v : Value} {a : Act} (hi : ops[i]? = some o) (hy : StaysIn P ops C o v a) {K : Act → World → Prop} {w : World} (hw : C w) (h : K (a.put o.dst v) w) : Go.wpOp P ops Noway i K a w := by
  unfold Go.wpOp
  simp only [hi]
  rcases hy with ⟨hwn, hv⟩ | ⟨hwn, rfl⟩
  · simp only [hwn, if_true, Oper.wp, hv w hw, Oper.upon]; exact .inl h
  · simp only [hwn, Bool.false_eq_true, if_false]; exact h
theorem wpOp_putS {j : Nat} {oi oj : Oper} {v : Value} (hj : ops[j]? = some oj) (hap : oi.apart ops oj = true)
    (hsi : ∀ cs b, oi.op ≠ .select cs b) (hsj : ∀ cs b, oj.op ≠ .select cs b) {K : Act → World → Prop} {a : Act} {w : World}
    (hy : StaysIn P ops C oi v a) (h : Go.wpOp P ops Noway j K (a.put oi.dst v) w) :
    Go.wpOp P ops Noway j (fun a' w' => StaysIn P ops C oi v a' ∧ K (a'.put oi.dst v) w') a w := by
  obtain ⟨h1, h2, h3⟩ := Oper.apart_spec hap
  have keep : ∀ (a : Act), StaysIn P ops C oi v a → ∀ u, StaysIn P ops C oi v (a.put oj.dst u) := fun a hy u =>
    hy.of_same (execOp_put oi hsi a oj.dst u h3) (wanted_put oi a oj.dst u h3)
  have keepD : ∀ d, StaysIn P ops C oi v { a with defers := d :: a.defers } := fun d => hy.of_same rfl rfl
  unfold Go.wpOp at *
  simp only [hj] at *
  rw [wanted_put oj a oi.dst v h1] at h
  split
  · rename_i hw
    simp only [hw, if_true] at h
    rcases h with h | ⟨_, _, _, hf⟩
    case inr => exact hf.elim
    refine .inl ?_
    unfold Oper.wp at *
    rw [execOp_put oj hsj a oi.dst v h1] at h
    generalize (execOp a.eval oj).run P w = r at *
    cases r with
    | ok n w' =>
      cases n <;> simp only [Oper.upon] at h ⊢
      case value u => exact ⟨keep a hy u, by rw [← Act.put_comm a v u h2]; exact h⟩
      case skip => exact ⟨keep a hy _, by rw [← Act.put_comm a v undef h2]; exact h⟩
      case defer d =>
        refine ⟨keep _ (keepD d) _, ?_⟩
        rw [← Act.put_comm _ v undef h2, ← Act.put_defers]
        exact h
      case enter f args =>
        refine Calls.mono h fun e w'' he => ?_
        cases e with
        | returned u => exact ⟨keep a hy u, by rw [← Act.put_comm a v u h2]; exact he⟩
        | panicked c => exact he.elim
        | outgrown => obtain ⟨_, _, hf⟩ := he; exact hf.elim
      case row row args => exact Rows.mono h fun u w'' he => ⟨keep a hy u, by rw [← Act.put_comm a v u h2]; exact he⟩
    | halt x w' => cases x <;> simp only [Oper.upon] at h <;> exact h.elim
  · rename_i hw
    simp only [hw] at h
    exact ⟨keep a hy _, by rw [← Act.put_comm a v undef h2]; exact h⟩

theorem anyC_first {i : Nat} {oi : Oper} {v : Value} (hi : ops[i]? = some oi) (hsel : ∀ (j : Nat) (o : Oper) cs b, ops[j]? = some o → o.op ≠ .select cs b) :
    ∀ (fuel : Nat) (listed : Array Bool) (a : Act) (w : World),
      (∀ j oj, ops[j]? = some oj → j ≠ i → listed.getD j true = false → (∀ e ∈ oj.after, Region.binds md e = true → e.on ≠ i) → oi.apart ops oj = true) →
      i ∈ Region.ready md ops listed → StaysIn P ops C oi v a →
      anyC P md ops C Q fuel (listed.setIfInBounds i true) (a.put oi.dst v) w → anyC P md ops C Q (fuel + 1) listed a w := by
  intro fuel
  induction fuel with
  | zero =>
    intro listed a w _ hr hy H
    refine ⟨anyC_C H, fun h => (by rw [h] at hr; cases hr), fun j hj => ?_⟩
    by_cases hji : j = i
    · subst hji; exact hy.wpOp hi (anyC_C H) H
    · have := ready_mono hj hji
      rw [H.2.1] at this
      cases this
  | succ fuel ih =>
    intro listed a w hfree hr hy H
    refine ⟨anyC_C H, fun h => (by rw [h] at hr; cases hr), fun j hj => ?_⟩
    by_cases hji : j = i
    · subst hji; exact hy.wpOp hi (anyC_C H) H
    · have h1 := H.2.2 j (ready_mono hj hji)
      obtain ⟨hjun, oj, hoj, hall⟩ := mem_ready.1 hj
      have hnot : ∀ e ∈ oj.after, Region.binds md e = true → e.on ≠ i := fun e he hb heq => by
        have h1 := hall e he hb
        have h0 := (mem_ready.1 hr).1
        rw [heq] at h1
        rcases Nat.lt_or_ge i listed.size with h' | h'
        · simp [h'] at h0 h1; rw [h0] at h1; cases h1
        · simp [Array.getElem?_eq_none h'] at h1
      have h2 := wpOp_putS hoj (hfree j oj hoj hji hjun hnot) (fun cs b => hsel i oi cs b hi) (fun cs b => hsel j oj cs b hoj) hy h1
      have hfree' : ∀ k ok, ops[k]? = some ok → k ≠ i → (listed.setIfInBounds j true).getD k true = false →
          (∀ e ∈ ok.after, Region.binds md e = true → e.on ≠ i) → oi.apart ops ok = true := fun k ok hk hki hun hno => by
        refine hfree k ok hk hki ?_ hno
        by_cases hjk : j = k
        · subst hjk; exact hjun
        · rw [getD_set_ne true hjk] at hun; exact hun
      refine wpOp_mono (fun a' w' h3 => ih (listed.setIfInBounds j true) a' w' hfree' (ready_mono hr (Ne.symm hji)) h3.1 ?_) h2
      rw [Array.setIfInBounds_comm _ _ hji]
      exact h3.2

/-- One reader taken first. -/
theorem anyC_take {fuel : Nat} {listed : Array Bool} {a : Act} {w : World} (i d : Nat) {oi : Oper} (v : Value) (hi : ops[i]? = some oi) (hd : oi.dst = some d)
    (hs : Region.noSelect ops = true) (hf : Region.free md ops listed i = true) (hr : (Region.ready md ops listed).contains i = true)
    (hy : StaysIn P ops C oi v a) (listed' : Array Bool) (hl : listed.setIfInBounds i true = listed')
    (h : anyC P md ops C Q fuel listed' (a.put (some d) v) w) : anyC P md ops C Q (fuel + 1) listed a w :=
  anyC_first hi (Region.noSelect_spec hs) fuel listed a w (Region.free_spec hi hf) (by simpa using hr) hy (hl ▸ hd ▸ h)

/-- The only operation that can come next. -/
theorem anyC_only {fuel : Nat} {listed : Array Bool} {a : Act} {w : World} (i : Nat) {oi : Oper} (hi : ops[i]? = some oi) (hr : Region.ready md ops listed = [i]) (hC : C w)
    (hw : Region.wanted oi (yielded ops a.tmps) = true) (listed' : Array Bool) (hl : listed.setIfInBounds i true = listed')
    (h : oi.wp P a w (anyC P md ops C Q fuel listed') Noway) : anyC P md ops C Q (fuel + 1) listed a w := by
  subst hl
  refine ⟨hC, fun h0 => (by rw [hr] at h0; cases h0), fun j hj => ?_⟩
  rw [hr] at hj
  obtain rfl : j = i := by simpa using hj
  unfold wpOp
  simp only [hi, hw, if_true]
  exact .inl h

theorem anyC_done {fuel : Nat} {listed : Array Bool} {a : Act} {w : World} (hr : Region.ready md ops listed = []) (hC : C w) (h : Q a w) : anyC P md ops C Q fuel listed a w := by
  cases fuel with
  | zero => exact ⟨hC, hr, h⟩
  | succ n => exact ⟨hC, fun _ => h, by rw [hr]; simp⟩

theorem region_anyC {id : Nat} {Q' : Exit → Act → World → Prop} {a : Act} {w : World} {l : List Oper} (C : World → Prop) (hm : P.follows .mixedOrders = true)
    (h : anyC P .any l.toArray C (fun a w => Q' .normal a w) l.length (Array.replicate l.length false) a w.drew) : (Code.region id l.toArray true).wp P Q' a w :=
  wp_region_any hm (by
    have := wpAny_of_anyC (Q' := Q') (fun _ _ _ h => h) _ _ _ _ h
    simpa using this)

theorem wq_okg {C : World → Prop} {Q : Act → Prop} {rest : List Oper} {o : Oper} {a : Act} (hg : Region.wanted o (yielded ops a.tmps) = true) (v : Value)
    (hr : ∀ w, C w → (execOp a.eval o).run P w = .ok (.value v) w) (h : wpQuiet P ops C Q rest (a.put o.dst v)) : wpQuiet P ops C Q (o :: rest) a := by
  refine wpQuiet_step fun K hK => ?_
  rw [if_pos hg]
  refine ⟨v, fun w hw => ?_, hK _ h⟩
  unfold Oper.quietAt
  rw [hr w hw]
  exact ⟨rfl, rfl⟩
theorem wq_loadg {C : World → Prop} {Q : Act → Prop} {rest : List Oper} {a : Act} {d : Option Tmp} {t ty : TypeId} {p : Operand} {pos : String} {af : Array Edge} {g : Option (Nat × Bool)} {n b o : Nat}
    (hg : Region.wanted { dst := d, op := .load t p, type := ty, pos := pos, after := af, guard := g } (yielded ops a.tmps) = true)
    (hp : a.eval p = .pointer (some ⟨b, o, none⟩)) (hagg : aggB P t = true) (hn : (P.info? t).map (·.size) = some n) (cs : List Value) (hl : cs.length = n) (hc : ∀ w, C w → ∀ j v, cs[j]? = some v → w.cell? ⟨b, o + j, none⟩ = some v)
    (h : wpQuiet P ops C Q rest (a.put d (.agg cs.toArray))) : wpQuiet P ops C Q ({ dst := d, op := .load t p, type := ty, pos := pos, after := af, guard := g } :: rest) a := by
  refine wq_okg hg (.agg cs.toArray) (fun w hw => ?_) h
  have := run_loadVar_agg (P := P) hagg hn cs hl (hc w hw)
  simp [execOp, hp, Instr.loadAt, Instr.sureAddr, this]
theorem gq_loadg {C : World → Prop} {Q : Act → Prop} {rest : List Oper} {a : Act} {d : Option Tmp} {ty : TypeId} {pos : String} {af : Array Edge} {g : Option (Nat × Bool)} (t : TypeId) (p : Operand)
    (h : wpQuiet P ops C Q ({ dst := d, op := .load t p, type := ty, pos := pos, after := af, guard := g } :: rest) a) : wpQuiet P ops C Q ({ dst := d, op := .load t p, type := ty, pos := pos, after := af, guard := g } :: rest) a := h
/-- One step of the lexical walk, the value given. -/
theorem wq_v (d : Nat) (v : Value) {C : World → Prop} {Q : Act → Prop} {rest : List Oper} {op : Op} {ty : TypeId} {pos : String} {af : Array Edge} {g : Option (Nat × Bool)} {a : Act}
    (hg : Region.wanted { dst := some d, op := op, type := ty, pos := pos, after := af, guard := g } (yielded ops a.tmps) = true)
    (hr : ∀ w, C w → (execOp a.eval { dst := some d, op := op, type := ty, pos := pos, after := af, guard := g }).run P w = .ok (.value v) w) (h : wpQuiet P ops C Q rest (a.put (some d) v)) :
    wpQuiet P ops C Q ({ dst := some d, op := op, type := ty, pos := pos, after := af, guard := g } :: rest) a := wq_okg hg v hr h
theorem stays_ok {o : Oper} {v : Value} {a : Act} (hg : o.guard = none) (h : ∀ w, C w → (execOp a.eval o).run P w = .ok (.value v) w) : StaysIn P ops C o v a :=
  .inl ⟨by simp [Region.wanted, hg], h⟩
theorem stays_move {d : Option Tmp} {x : Operand} {ty : TypeId} {pos : String} {af : Array Edge} {a : Act} : StaysIn P ops C { dst := d, op := .move x, type := ty, pos := pos, after := af, guard := none } (a.eval x) a :=
  stays_ok rfl (fun _ _ => rfl)
theorem stays_assign {d : Option Tmp} {x : Operand} {ty : TypeId} {pos : String} {af : Array Edge} {a : Act} : StaysIn P ops C { dst := d, op := .assign x, type := ty, pos := pos, after := af, guard := none } (a.eval x) a :=
  stays_ok rfl (fun _ _ => rfl)
theorem stays_load {d : Option Tmp} {t ty : TypeId} {p : Operand} {pos : String} {af : Array Edge} {a : Act} {n b o : Nat}
    (hp : a.eval p = .pointer (some ⟨b, o, none⟩)) (hagg : aggB P t = true) (hn : (P.info? t).map (·.size) = some n) (cs : List Value) (hl : cs.length = n) (hc : ∀ w, C w → ∀ j v, cs[j]? = some v → w.cell? ⟨b, o + j, none⟩ = some v) :
    StaysIn P ops C { dst := d, op := .load t p, type := ty, pos := pos, after := af, guard := none } (.agg cs.toArray) a :=
  stays_ok rfl (fun w hw => by
    have := run_loadVar_agg (P := P) hagg hn cs hl (hc w hw)
    simp [execOp, hp, Instr.loadAt, Instr.sureAddr, this])
/-- A plain Go function: it has a body of its own. -/
def plainFn (P : Program) (f : FuncId) : Bool := match P.funcs[f]? with | some fn => !(fn.name == "runtime.NumGoroutine") && !fn.body.isNone | none => false
theorem run_callFunc {f : FuncId} (hf : plainFn P f = true) (args : Array Value) (w : World) : (callFunc f args).run P w = .ok (.enter f args) w := by
  unfold plainFn at hf
  unfold callFunc
  cases h : P.funcs[f]? with
  | none => simp [h] at hf
  | some fn =>
    simp only [h, Bool.and_eq_true, Bool.not_eq_true'] at hf
    have h1 : ¬ fn.name = "runtime.NumGoroutine" := by simpa using hf.1
    have h2 : ¬ fn.body = none := by intro h; simp [h] at hf
    simp [h, h1, h2]
/-- A call of a named function, by its contract. -/
theorem wp_call (d : Nat) {f : FuncId} {args : Array Operand} {ats : Array TypeId} {ty : TypeId} {pos : String} {af : Array Edge} {g : Option (Nat × Bool)} {a : Act} {w : World} {K : Act → World → Prop} {Q' : Exit → Act → World → Prop}
    (hf : plainFn P f = true) (vals : List Value) (hv : args.toList.map a.eval = vals) (R : Ending → World → Prop) (hc : Calls P f vals.toArray w R) (h : ∀ e w', R e w' → ∃ v, e = .returned v ∧ K (a.put (some d) v) w') :
    Oper.wp P { dst := some d, op := .call { callee := .value (.func f), args := args, argTypes := ats }, type := ty, pos := pos, after := af, guard := g } a w K Q' := by
  have hv' : args.map a.eval = vals.toArray := by rw [← hv, ← Array.toList_map, Array.toArray_toList]
  rw [← hv'] at hc
  unfold Oper.wp
  have : (execOp a.eval { dst := some d, op := .call { callee := .value (.func f), args := args, argTypes := ats }, type := ty, pos := pos, after := af, guard := g }).run P w = .ok (.enter f (args.map a.eval)) w := by
    rw [execOp_call_go, run_callFunc hf]; simp
  rw [this]
  simp only [Oper.upon]
  refine hc.mono fun e w' he => ?_
  obtain ⟨v, rfl, hk⟩ := h e w' he
  exact hk
theorem wq_call (d : Nat) (v : Value) {Q : Act → Prop} {rest : List Oper} {f : FuncId} {args : Array Operand} {ats : Array TypeId} {ty : TypeId} {pos : String} {af : Array Edge} {g : Option (Nat × Bool)} {a : Act}
    (hg : Region.wanted { dst := some d, op := .call { callee := .value (.func f), args := args, argTypes := ats }, type := ty, pos := pos, after := af, guard := g } (yielded ops a.tmps) = true)
    (hf : plainFn P f = true) (vals : List Value) (hv : args.toList.map a.eval = vals) (hc : ∀ w, C w → Calls P f vals.toArray w fun e w' => e = .returned v ∧ C w') (h : wpQuiet P ops C Q rest (a.put (some d) v)) :
    wpQuiet P ops C Q ({ dst := some d, op := .call { callee := .value (.func f), args := args, argTypes := ats }, type := ty, pos := pos, after := af, guard := g } :: rest) a := by
  have hv' : args.map a.eval = vals.toArray := by rw [← hv, ← Array.toList_map, Array.toArray_toList]
  refine wpQuiet_step fun K hK => ?_
  rw [if_pos hg]
  refine ⟨v, fun w hw => ?_, hK _ h⟩
  unfold Oper.quietAt
  rw [execOp_call_go, run_callFunc hf, show (#[] ++ args.map a.eval ++ #[]) = vals.toArray by rw [hv']; simp]
  exact ⟨rfl, hc w hw⟩
end
end Go.Proofs.Qxb6609507a
