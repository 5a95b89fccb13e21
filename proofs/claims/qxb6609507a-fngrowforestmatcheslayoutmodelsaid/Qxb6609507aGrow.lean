import Derived.Test.Qxb6609507aNew
namespace Go.Proofs.Qxb6609507a
set_option linter.unusedVariables false
set_option linter.unusedSimpArgs false
open Go.ChangeShapes Go.WideShapes Go.ChangeAt Go.RowKit

/-- A call of a function value that captures. -/
theorem wp_callv {P : Program} (d : Nat) {x : Operand} {f : FuncId} {cap : Array Value} {args : Array Operand} {ats : Array TypeId} {ty : TypeId} {pos : String} {af : Array Edge} {g : Option (Nat × Bool)} {a : Act} {w : World} {K : Act → World → Prop} {Q' : Exit → Act → World → Prop}
    (hf : plainFn P f = true) (hx : a.eval x = .func (.func f) #[] cap) (vals : List Value) (hv : args.toList.map a.eval = vals) (R : Ending → World → Prop) (hc : Calls P f (vals.toArray ++ cap) w R) (h : ∀ e w', R e w' → ∃ v, e = .returned v ∧ K (a.put (some d) v) w') :
    Oper.wp P { dst := some d, op := .call { callee := .value x, args := args, argTypes := ats }, type := ty, pos := pos, after := af, guard := g } a w K Q' := by
  have hv' : args.map a.eval = vals.toArray := by rw [← hv, ← Array.toList_map, Array.toArray_toList]
  unfold Oper.wp
  have : (execOp a.eval { dst := some d, op := .call { callee := .value x, args := args, argTypes := ats }, type := ty, pos := pos, after := af, guard := g }).run P w = .ok (.enter f (vals.toArray ++ cap)) w := by
    simp only [execOp, resolve, hx, hv', Sem.run_bind, Sem.run_pure, Result.andThen_ok]
    simp [invoke, Deferred.ofValue, run_callFunc hf]
  rw [this]
  simp only [Oper.upon]
  refine hc.mono fun e w' he => ?_
  obtain ⟨v, rfl, hk⟩ := h e w' he
  exact hk

/-! ### The state that the grown trees leave, level by level -/
/-- What is written of a cell: its place, its level, whether it is a tree's root. -/
structure CellE where
  ord : Nat
  level : Nat
  top : Bool
structure LinkE where
  first : Nat
  parent : Int
  child : Int
def CellE.cells (c : CellE) : List Value := [.int .i32 c.ord, .int .i32 (-1), .int .i32 0, .int .i8 c.level, .bool c.top, .bool false]
def cell0 : List Value := [.int .i32 0, .int .i32 0, .int .i32 0, .int .i8 0, .bool false, .bool false]
def LinkE.cells (c : LinkE) : List Value := [.int .i32 c.first, .int .i32 c.parent, .int .i32 c.child]
def link0 : List Value := [.int .i32 0, .int .i32 0, .int .i32 0]
/-- A row of n elements of which some are written. -/
def rowOf {α : Type} (f : α → List Value) (z : List Value) (xs : List α) (n : Nat) : List Value := xs.flatMap f ++ (List.replicate (n - xs.length) z).flatMap (fun x => x)
structure St where
  c : Nat → List CellE
  k : Nat → List LinkE
def St.pushC (s : St) (l : Nat) (x : CellE) : St := ⟨fun m => if m = l then s.c m ++ [x] else s.c m, s.k⟩
def St.pushK (s : St) (l : Nat) (x : LinkE) : St := ⟨s.c, fun m => if m = l then s.k m ++ [x] else s.k m⟩
/-- One tree of level l grown: as growForest's closure does it. -/
def growP (T : Topo) : Nat → Nat → Int → St → St
  | 0, first, par, s =>
    ((s.pushC 0 ⟨(s.c 0).length, 0, par == -1⟩).pushK 0 ⟨first, par, -1⟩)
  | l + 1, first, par, s =>
    let s1 := s.pushC (l + 1) ⟨(s.c (l + 1)).length, l + 1, par == -1⟩
    let s2 := (List.range (T.fan (l + 1))).foldl (fun u i => growP T l (first + i * T.sz l) ((s.c (l + 1)).length : Nat) u) s1
    s2.pushK (l + 1) ⟨first, par, ((s1.c l).length : Nat)⟩
/-- How many cells of level k a tree of level l has. -/
def cntT (T : Topo) : Nat → Nat → Nat
  | 0, k => if k = 0 then 1 else 0
  | l + 1, k => if k = l + 1 then 1 else T.fan (l + 1) * cntT T l k

theorem rowOf_length {α : Type} (f : α → List Value) (z : List Value) (m : Nat) (hf : ∀ x, (f x).length = m) (hz : z.length = m) (xs : List α) (n : Nat) (h : xs.length ≤ n) : (rowOf f z xs n).length = n * m := by
  unfold rowOf
  rw [List.length_append, flat_length f m xs (fun x _ => hf x), flat_length (fun x : List Value => x) m _ (fun x hx => by rw [List.eq_of_mem_replicate hx]; exact hz)]
  rw [List.length_replicate, ← Nat.add_mul]
  congr 1; omega
/-- Writing the next element. -/
theorem rowOf_push {α : Type} (f : α → List Value) (z : List Value) (m : Nat) (hf : ∀ x, (f x).length = m) (hz : z.length = m) (xs : List α) (n : Nat) (h : xs.length < n) (x : α) :
    (rowOf f z xs n).take (xs.length * m) ++ f x ++ (rowOf f z xs n).drop (xs.length * m + m) = rowOf f z (xs ++ [x]) n := by
  have hl : (xs.flatMap f).length = xs.length * m := flat_length f m xs (fun x _ => hf x)
  unfold rowOf
  rw [show n - xs.length = (n - (xs.length + 1)) + 1 by omega, List.replicate_succ, List.flatMap_cons]
  rw [List.take_append_of_le_length (by omega), List.take_of_length_le (by omega), ← List.append_assoc (xs.flatMap f) z]
  rw [List.drop_append, List.drop_of_length_le (by simp [hl, hz])]
  simp [hl, hz]

/-! ### The closure's surroundings -/
structure Gs where
  gk : Nat
  fB : Nat
  wB : Nat
  lB : Nat
  fb : Nat
  lkb : Nat
  lv : Nat → Nat
  lk : Nat → Nat
  N : Nat → Nat
  linked : Bool
/-- The blocks that growing writes. -/
def Gs.W (G : Gs) : List Nat := G.gk :: ((List.range 5).map G.lv ++ if G.linked then (List.range 5).map G.lk else [])
def Gs.caps (G : Gs) : Array Value := #[.pointer (some ⟨G.gk, 0, none⟩), .pointer (some ⟨G.fB, 0, none⟩), .pointer (some ⟨G.wB, 0, none⟩), .pointer (some ⟨G.lB, 0, none⟩)]
structure Gs.Ok (G : Gs) : Prop where
  nd : G.W.Nodup
  out : ∀ b ∈ [G.fB, G.wB, G.lB, G.fb], b ∉ G.W
  outk : G.linked = true → G.lkb ∉ G.W
  n : ∀ l, l < 5 → G.N l ≤ 65536
/-- What lies still while trees grow. -/
structure Still (G : Gs) (T : Topo) (w : World) : Prop where
  fbox : w.cell? ⟨G.fB, 0, none⟩ = some (.pointer (some ⟨G.fb, 0, none⟩))
  wbox : w.cell? ⟨G.wB, 0, none⟩ = some (.func (.func 53) #[] G.caps)
  lbox : w.cell? ⟨G.lB, 0, none⟩ = some (.bool G.linked)
  levels : ∀ l, l < 5 → w.cell? ⟨G.fb, 2 + l, none⟩ = some (.slice (some ⟨G.lv l, 0, none⟩) (G.N l) (G.N l))
  size : ∀ l, l < 5 → w.cell? ⟨G.fb, 28 + l, none⟩ = some (.int .i32 (T.sz l))
  fan : ∀ l, l < 5 → w.cell? ⟨G.fb, 33 + l, none⟩ = some (.int .i32 (T.fan l))
  links : G.linked = true → w.cell? ⟨G.fb, 22, none⟩ = some (.pointer (some ⟨G.lkb, 0, none⟩))
  lks : G.linked = true → ∀ l, l < 5 → w.cell? ⟨G.lkb, l, none⟩ = some (.slice (some ⟨G.lk l, 0, none⟩) (G.N l) (G.N l))
theorem cell_upd {w w' : World} {b o : Nat} {v : Value} {us : List Nat} (h : w.cell? ⟨b, o, none⟩ = some v) (hu : Upd us w w') (hn : b ∉ us) : w'.cell? ⟨b, o, none⟩ = some v :=
  (World.cell?_of_block (hu.same b (cell_lt h) hn)).trans h
theorem Still.upd {G : Gs} {T : Topo} {w w' : World} (h : Still G T w) (hG : G.Ok) (hu : Upd G.W w w') : Still G T w' :=
  ⟨cell_upd h.fbox hu (hG.out _ (by simp)), cell_upd h.wbox hu (hG.out _ (by simp)), cell_upd h.lbox hu (hG.out _ (by simp)),
   fun l hl => cell_upd (h.levels l hl) hu (hG.out _ (by simp)), fun l hl => cell_upd (h.size l hl) hu (hG.out _ (by simp)), fun l hl => cell_upd (h.fan l hl) hu (hG.out _ (by simp)),
   fun e => cell_upd (h.links e) hu (hG.out _ (by simp)), fun e l hl => cell_upd (h.lks e l hl) hu (hG.outk e)⟩
/-- What growing has written. -/
structure Wrote (G : Gs) (w : World) (s : St) : Prop where
  grown : Blk w G.gk ((List.range 5).map fun l => .int .i32 (s.c l).length) 85
  cells : ∀ l, l < 5 → Blk w (G.lv l) (rowOf CellE.cells cell0 (s.c l) (G.N l)) 93
  lrows : G.linked = true → ∀ l, l < 5 → Blk w (G.lk l) (rowOf LinkE.cells link0 (s.k l) (G.N l)) 98
end Go.Proofs.Qxb6609507a
