import Derived.Test.Qxb6609507aOps2
namespace Go.Proofs.Qxb6609507a
set_option linter.unusedVariables false
set_option linter.unusedSimpArgs false
open Go.ChangeShapes Go.WideShapes Go.ChangeAt Go.RowKit
section
variable {d : Option Tmp} {ty t' : TypeId} {pos : String} {af : Array Edge} {g : Option (Nat × Bool)} {a : Act} {x y : Operand}
theorem exec_arrN {t e n b o l sz : Nat} {k : IntKind} (hu : Try.prog.underlying t = some (.array n e)) (hs : (Try.prog.info? e).map (·.size) = some sz) (hx : a.eval x = .pointer (some ⟨b, o, none⟩)) (hy : a.eval y = .int k l) (hl : l < n) (w : World) :
    (execOp a.eval { dst := d, op := .indexAddr t x y, type := ty, pos := pos, after := af, guard := g }).run Try.prog w = .ok (.value (.pointer (some ⟨b, o + l * sz, none⟩))) w := by
  have hk' : (l : Int) < (n : Int) := by omega
  simp only [execOp, hx, hy]
  simp [go_sem, Instr.indexAt, asIntOf, run_underlying hu, run_sizeOf hs, hl, add_at]
theorem exec_quo64 {p q : Nat} (hx : a.eval x = .int .i64 p) (hy : a.eval y = .int .i64 q) (hq : 1 ≤ q) (hp : p ≤ 4294967296) (w : World) :
    (execOp a.eval { dst := d, op := .binOp .quo 3 x y t', type := ty, pos := pos, after := af, guard := g }).run Try.prog w = .ok (.value (.int .i64 ((p / q : Nat) : Int))) w := by
  have hq0 : ¬ (q : Int) = 0 := by omega
  simp only [execOp, hx, hy]
  simp [go_sem, hq0]
  rw [if_neg (by omega)]
  have hd : ((p : Int) / (q : Int)) = ((p / q : Nat) : Int) := by simp
  have hw : IntKind.i64.wrap ((p : Int) / (q : Int)) = ((p : Int) / (q : Int)) := by
    rw [hd, IntKind.wrap_i64]
    have := Nat.div_le_self p q
    generalize p / q = r at *
    omega
  rw [hw]
theorem exec_add64 {p q : Nat} (hx : a.eval x = .int .i64 p) (hy : a.eval y = .int .i64 q) (hb : p + q ≤ 4294967296) (w : World) :
    (execOp a.eval { dst := d, op := .binOp .add 3 x y t', type := ty, pos := pos, after := af, guard := g }).run Try.prog w = .ok (.value (.int .i64 ((p + q : Nat) : Int))) w := by
  simp only [execOp, hx, hy]
  simp [go_sem]
  rw [IntKind.wrap_i64]; omega
/-- A store of an aggregate into a block that is known whole. -/
theorem wp_storeN {P : Program} {t n b o : Nat} {e : TypeId} {p v : Operand} {w : World} {K : Act → World → Prop} {Q : Exit → Act → World → Prop}
    (hp : a.eval p = .pointer (some ⟨b, o, none⟩)) (cs : List Value) (hv : a.eval v = .agg cs.toArray)
    (hn : (P.info? t).map (·.size) = some n) (hl : cs.length = n) (cur : List Value) (hb : Blk w b cur e) (hfit : o + n ≤ cur.length) (h1 : ∀ v ∈ cs, v.oneCell' = true)
    (h : ∀ w', Blk w' b (cur.take o ++ cs ++ cur.drop (o + n)) e → w.grownBy w' (some b) → K (a.put d undef) w') :
    Oper.wp P { dst := d, op := .store t p v, type := ty, pos := pos, after := af, guard := g } a w K Q := by
  subst hl
  have hst := run_storeCells_at P b o e cs 0 cur.toArray w hb (by simpa using hfit) h1
  have hrun : (storeVar t ⟨b, o, none⟩ (.agg cs.toArray)).run P w = .ok () (w.setRow b (cur.take o ++ cs ++ cur.drop (o + cs.length)).toArray) := by
    simp [storeVar, Value.cells, run_sizeOf hn, hst]
  unfold Oper.wp
  simp [execOp, hp, hv, Instr.storeAt, Instr.sureAddr, hrun, Oper.upon]
  exact h _ (by simpa using hb.setRow (cur.take o ++ cs ++ cur.drop (o + cs.length))) ⟨rfl, rfl, rfl, by simp [World.setRow], fun k _ hk => setRow_other w b k _ (fun e => hk (by simp [e]))⟩
end
theorem plain50 : plainFn Try.prog 50 = true := by kernel_rfl
theorem plain51 : plainFn Try.prog 51 = true := by kernel_rfl
theorem plain52 : plainFn Try.prog 52 = true := by kernel_rfl
theorem plain46 : plainFn Try.prog 46 = true := by kernel_rfl
theorem info93 : (Try.prog.info? 93).map (fun i => (i.zero, i.size, i.bytes)) = some (some (.agg cell0.toArray), 6, 16) := by kernel_rfl
theorem info98 : (Try.prog.info? 98).map (fun i => (i.zero, i.size, i.bytes)) = some (some (.agg link0.toArray), 3, 12) := by kernel_rfl
theorem one59 : oneB Try.prog 59 = true := by kernel_rfl
/-! ### The boxes of growForest -/
structure Env (T : Topo) (linked : Bool) (base : Nat) (w : World) : Prop where
  topo : Blk w base [.int .i64 T.g, .int .i64 T.p, .int .i64 T.s, .int .i64 T.n] 38
  lbox : Blk w (base + 1) [.bool linked] 4
  fbox : Blk w (base + 3) [.pointer (some ⟨base + 2, 0, none⟩)] 35
theorem Env.upd {T : Topo} {linked : Bool} {base : Nat} {w w' : World} (h : Env T linked base w) (hu : Upd [base + 2, base + 4] w w') : Env T linked base w' :=
  ⟨h.topo.upd hu (by simp), h.lbox.upd hu (by simp), h.fbox.upd hu (by simp)⟩
def loOf (base : Nat) (linked : Bool) : Nat := if linked then base + 5 else base + 4
def lkRow (Y : Lay) (N : Nat → Nat) (l : Nat) : List Value := (List.range 5).map fun k => if k < l then .slice (some ⟨Y.lk k, 0, none⟩) (N k) (N k) else nilS
structure L1 (T : Topo) (N : Nat → Nat) (linked : Bool) (base : Nat) (w0 : World) (l : Nat) (Y : Lay) (w : World) : Prop where
  env : Env T linked base w
  fb : Blk w (base + 2) (Y.fc T N linked base l).cells 88
  lkb : linked = true → Blk w (base + 4) (lkRow Y N l) 99
  pcs : Pieces Y N linked (loOf base linked) l w
  bel : Below base w0 w
end Go.Proofs.Qxb6609507a
