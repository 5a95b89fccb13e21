import Derived.Test.Qxb6609507aExec
import Derived.RangeFuncRecord
namespace Go.Proofs.Qxb6609507a
set_option linter.unusedVariables false
set_option linter.unusedSimpArgs false
open Go.ChangeShapes Go.WideShapes Go.ChangeAt Go.RowKit

theorem results_cell {P : Program} {w : World} {fn : Func} {t ty b o n : Nat} {tmps : Array Value} (h : fn.results = #[.cell t ty]) (ht : tmps.getD t undef = .pointer (some ⟨b, o, none⟩)) (hagg : aggB P ty = true) (hn : (P.info? ty).map (·.size) = some n) (cs : List Value) (hl : cs.length = n) (hc : ∀ j v, cs[j]? = some v → w.cell? ⟨b, o + j, none⟩ = some v) :
    (results fn tmps).run P w = .ok (.agg cs.toArray) w := by
  have := run_loadVar_agg (P := P) hagg hn cs hl hc
  have ht2 : tmps[t]?.getD undef = .pointer (some ⟨b, o, none⟩) := by simpa using ht
  simp [results, h, ht2, asAddr, this]
theorem results_cell3 {P : Program} {w : World} {fn : Func} {t ty b o n t' ty' b' o' n' u : Nat} {tmps : Array Value} (h : fn.results = #[.cell t ty, .cell t' ty', .tmp u]) (ht : tmps.getD t undef = .pointer (some ⟨b, o, none⟩)) (hagg : aggB P ty = true) (hn : (P.info? ty).map (·.size) = some n) (cs : List Value) (hl : cs.length = n) (hc : ∀ j v, cs[j]? = some v → w.cell? ⟨b, o + j, none⟩ = some v)
    (ht' : tmps.getD t' undef = .pointer (some ⟨b', o', none⟩)) (hagg' : aggB P ty' = true) (hn' : (P.info? ty').map (·.size) = some n') (cs' : List Value) (hl' : cs'.length = n') (hc' : ∀ j v, cs'[j]? = some v → w.cell? ⟨b', o' + j, none⟩ = some v) :
    (results fn tmps).run P w = .ok (.tuple #[.agg cs.toArray, .agg cs'.toArray, tmps.getD u undef]) w := by
  have h1 := run_loadVar_agg (P := P) hagg hn cs hl hc
  have h2 := run_loadVar_agg (P := P) hagg' hn' cs' hl' hc'
  have ht2 : tmps[t]?.getD undef = .pointer (some ⟨b, o, none⟩) := by simpa using ht
  have ht3 : tmps[t']?.getD undef = .pointer (some ⟨b', o', none⟩) := by simpa using ht'
  simp [results, h, ht2, ht3, asAddr, h1, h2]
theorem blk_new (w : World) (cs : List Value) (e : TypeId) : Blk (w.alloc (.cells cs.toArray e)) w.heap.size cs e := World.alloc_heap_new w _
theorem blkCells {w : World} {b : Nat} {cs : List Value} {e : TypeId} (h : Blk w b cs e) : ∀ j v, cs[j]? = some v → w.cell? ⟨b, 0 + j, none⟩ = some v := by
  intro j v hv; rw [Nat.zero_add, h.cell]; exact hv

/-- A topology's four counts. -/
structure Topo where
  g : Nat
  p : Nat
  s : Nat
  n : Nat
/-- The domain of the laws. -/
structure Topo.Ok (T : Topo) : Prop where
  g1 : 1 ≤ T.g
  p1 : 1 ≤ T.p
  s1 : 1 ≤ T.s
  gh : T.g ≤ 65536
  ph : T.p ≤ 65536
  sh : T.s ≤ 65536
  nh : T.n ≤ 65536
  node : T.g * T.p * T.s ≤ 2147483647
  rack : T.g * T.p * T.s * T.n ≤ 2147483647
def Topo.val (T : Topo) : Value := .agg #[.int .i64 T.g, .int .i64 T.p, .int .i64 T.s, .int .i64 T.n]
def Topo.sz (T : Topo) : Nat → Nat
  | 0 => 1
  | 1 => T.g
  | 2 => T.g * T.p
  | 3 => T.g * T.p * T.s
  | 4 => T.g * T.p * T.s * T.n
  | _ => 0
def Topo.fan (T : Topo) : Nat → Nat
  | 1 => T.g
  | 2 => T.p
  | 3 => T.s
  | 4 => T.n
  | _ => 0
theorem Topo.Ok.pcie {T : Topo} (h : T.Ok) : T.g * T.p ≤ 2147483647 := Nat.le_trans (Nat.le_mul_of_pos_right _ h.s1) h.node
theorem Topo.Ok.sz_le {T : Topo} (h : T.Ok) (l : Nat) : T.sz l ≤ 2147483647 := by
  have := h.gh; have := h.pcie; have := h.node; have := h.rack
  match l with
  | 0 => simp [Topo.sz]
  | 1 => simp [Topo.sz]; omega
  | 2 => simpa [Topo.sz] using h.pcie
  | 3 => simpa [Topo.sz] using h.node
  | 4 => simpa [Topo.sz] using h.rack
  | _ + 5 => simp [Topo.sz]
theorem Topo.Ok.fan_le {T : Topo} (h : T.Ok) (l : Nat) : T.fan l ≤ 65536 := by
  have := h.gh; have := h.ph; have := h.sh; have := h.nh
  match l with
  | 0 => simp [Topo.fan]
  | 1 => simpa [Topo.fan] using h.gh
  | 2 => simpa [Topo.fan] using h.ph
  | 3 => simpa [Topo.fan] using h.sh
  | 4 => simpa [Topo.fan] using h.nh
  | _ + 5 => simp [Topo.fan]
theorem Topo.sz_succ (T : Topo) (l : Nat) (hl : l < 4) : T.sz (l + 1) = T.sz l * T.fan (l + 1) := by
  match l, hl with
  | 0, _ => simp [Topo.sz, Topo.fan]
  | 1, _ => simp [Topo.sz, Topo.fan]
  | 2, _ => simp [Topo.sz, Topo.fan]
  | 3, _ => simp [Topo.sz, Topo.fan]

set_option maxHeartbeats 1000000 in
theorem size_any (T : Topo) (h : T.Ok) (l : Nat) (hl : l ≤ 4) (w : World) :
    Calls Try.prog 50 #[T.val, .int .i8 l] w fun e w' => e = .returned (.int .i64 (T.sz l)) ∧ w' = w.alloc (.cells #[.int .i64 T.g, .int .i64 T.p, .int .i64 T.s, .int .i64 T.n] 38) := by
  obtain ⟨g, p, s, n⟩ := T
  have h1 := h.gh; have h2 := h.pcie; have h3 := h.node; have h4 := h.rack
  simp only at h1 h2 h3 h4
  have e2 : ((g : Int) * (p : Int)) ≤ 2147483647 := by rw [← Int.natCast_mul]; omega
  have e3 : ((g : Int) * (p : Int) * (s : Int)) ≤ 2147483647 := by rw [← Int.natCast_mul, ← Int.natCast_mul]; omega
  have e4 : ((g : Int) * (p : Int) * (s : Int) * (n : Int)) ≤ 2147483647 := by rw [← Int.natCast_mul, ← Int.natCast_mul, ← Int.natCast_mul]; omega
  have f2 : 0 ≤ ((g : Int) * (p : Int)) := by exact_mod_cast Nat.zero_le (g * p)
  have f3 : 0 ≤ ((g : Int) * (p : Int) * (s : Int)) := by exact_mod_cast Nat.zero_le (g * p * s)
  have f4 : 0 ≤ ((g : Int) * (p : Int) * (s : Int) * (n : Int)) := by exact_mod_cast Nat.zero_le (g * p * s * n)
  unfold Topo.val
  match l, hl with
  | 0, _ =>
    go_enter Try.func50, Try.ntmps50
    go_wp2
    go_ret
    exact ⟨rfl, rfl⟩
  | 1, _ =>
    go_enter Try.func50, Try.ntmps50
    go_wp2
    go_ret
    exact ⟨rfl, rfl⟩
  | 2, _ =>
    go_enter Try.func50, Try.ntmps50
    go_wp2
    go_ret
    exact ⟨by simp [Topo.sz], rfl⟩
  | 3, _ =>
    go_enter Try.func50, Try.ntmps50
    go_wp2
    go_ret
    exact ⟨by simp [Topo.sz], rfl⟩
  | 4, _ =>
    go_enter Try.func50, Try.ntmps50
    go_wp2
    go_ret
    exact ⟨by simp [Topo.sz], rfl⟩

set_option maxHeartbeats 1000000 in
theorem fan_any (T : Topo) (l : Nat) (hl : l ≤ 4) (w : World) :
    Calls Try.prog 51 #[T.val, .int .i8 l] w fun e w' => e = .returned (.int .i64 (T.fan l)) ∧ w' = w.alloc (.cells #[.int .i64 T.g, .int .i64 T.p, .int .i64 T.s, .int .i64 T.n] 38) := by
  obtain ⟨g, p, s, n⟩ := T
  unfold Topo.val
  match l, hl with
  | 0, _ =>
    go_enter Try.func51, Try.ntmps51
    go_wp2
    go_ret
    exact ⟨rfl, rfl⟩
  | 1, _ =>
    go_enter Try.func51, Try.ntmps51
    go_wp2
    go_ret
    exact ⟨rfl, rfl⟩
  | 2, _ =>
    go_enter Try.func51, Try.ntmps51
    go_wp2
    go_ret
    exact ⟨rfl, rfl⟩
  | 3, _ =>
    go_enter Try.func51, Try.ntmps51
    go_wp2
    go_ret
    exact ⟨rfl, rfl⟩
  | 4, _ =>
    go_enter Try.func51, Try.ntmps51
    go_wp2
    go_ret
    exact ⟨rfl, rfl⟩

theorem agg38 : aggB Try.prog 38 = true := by kernel_rfl
theorem size38 : (Try.prog.info? 38).map (·.size) = some 4 := by kernel_rfl
set_option maxHeartbeats 1000000 in
theorem topo_any (T : Topo) (w : World) :
    Calls Try.prog 11 #[.int .i64 T.g, .int .i64 T.p, .int .i64 T.s, .int .i64 T.n] w fun e w' => e = .returned T.val ∧ Below w.heap.size w w' := by
  obtain ⟨g, p, s, n⟩ := T
  unfold Topo.val
  go_enter Try.func11, Try.ntmps11
  go_wp2
  refine bodyPost_ret (results_cell rfl rfl agg38 size38 [.int .i64 g, .int .i64 p, .int .i64 s, .int .i64 n] rfl (blkCells (e := 38) (blk_new _ _ _))) rfl ?_
  exact ⟨rfl, (Below.refl _ _).alloc (Nat.le_refl _) _⟩

theorem agg24 : aggB Try.prog 24 = true := by kernel_rfl
theorem agg25 : aggB Try.prog 25 = true := by kernel_rfl
theorem size24 : (Try.prog.info? 24).map (·.size) = some 5 := by kernel_rfl
theorem size25 : (Try.prog.info? 25).map (·.size) = some 6 := by kernel_rfl

/-- What zzTopoOK hands back, off its four blocks. -/
theorem topo_ret (ca cb : List Value) (hca : ca.length = 5) (hcb : cb.length = 6) (C D : Obj) (w : World) (tmps : Array Value)
    (h10 : tmps.getD 10 undef = .pointer (some ⟨w.heap.size, 0, none⟩)) (h11 : tmps.getD 11 undef = .pointer (some ⟨w.heap.size + 1, 0, none⟩)) :
    (results Try.f8 tmps).run Try.prog ((((w.alloc (.cells ca.toArray 24)).alloc (.cells cb.toArray 25)).alloc C).alloc D).drew = .ok (.tuple #[.agg ca.toArray, .agg cb.toArray, tmps.getD 12 undef]) ((((w.alloc (.cells ca.toArray 24)).alloc (.cells cb.toArray 25)).alloc C).alloc D).drew := by
  refine results_cell3 rfl h10 agg24 size24 ca hca ?_ h11 agg25 size25 cb hcb ?_
  · intro j v hv
    show ((((w.alloc (.cells ca.toArray 24)).alloc (.cells cb.toArray 25)).alloc C).alloc D).cell? _ = _
    rw [World.cell?_alloc_past _ _ _ (by simp; omega), World.cell?_alloc_past _ _ _ (by simp; omega), World.cell?_alloc_past _ _ _ (by simp), World.cell?_alloc_at _ _ _ _ rfl]
    simpa using hv
  · intro j v hv
    show ((((w.alloc (.cells ca.toArray 24)).alloc (.cells cb.toArray 25)).alloc C).alloc D).cell? _ = _
    rw [World.cell?_alloc_past _ _ _ (by simp), World.cell?_alloc_past _ _ _ (by simp), World.cell?_alloc_at _ _ _ _ (by simp)]
    simpa using hv
theorem four_below (w : World) (A B C D : Obj) : Below w.heap.size w ((((w.alloc A).alloc B).alloc C).alloc D).drew :=
  Below.drew <| ((((Below.refl _ w).alloc (Nat.le_refl _) _).alloc (by simp) _).alloc (by simp; omega) _).alloc (by simp; omega) _

/-- A slice of levels that came in (an empty one is not looked at). -/
def TopsIn (w : World) (a : Option Addr) (ts : List Int) : Prop :=
  ∀ k (hk : k < ts.length), ∃ b o, a = some ⟨b, o, none⟩ ∧ w.cell? ⟨b, o + k, none⟩ = some (.int .i8 ts[k]) ∧ b < w.heap.size ∧ -128 ≤ ts[k] ∧ ts[k] ≤ 127
theorem TopsIn.below {w w' : World} {a : Option Addr} {ts : List Int} (h : TopsIn w a ts) (hb : Below w.heap.size w w') : TopsIn w' a ts := by
  intro k hk
  obtain ⟨b, o, ha, h1, h2, h3⟩ := h k hk
  exact ⟨b, o, ha, (hb.cell (p := ⟨b, _, none⟩) h2).trans h1, Nat.lt_of_lt_of_le h2 hb.size, h3⟩

def Topo.szV (T : Topo) : List Value := (List.range 5).map fun l => .int .i64 (T.sz l)
def Topo.fanV (T : Topo) : List Value := (List.range 6).map fun l => .int .i64 (T.fan l)
/-- The trees that the laws speak of. -/
structure Tops (T : Topo) (tl : List Nat) : Prop where
  le : ∀ t ∈ tl, t ≤ 4
  pos : ∀ t ∈ tl, 1 ≤ T.sz t
  sum : (tl.map T.sz).sum ≤ 65536
/-- How zzTopoOK ends. -/
def TopoRes (g p s n : Int) (ts : List Int) (e : Ending) : Prop :=
  (∃ ca cb : List Value, ca.length = 5 ∧ cb.length = 6 ∧ (∀ v ∈ ca ++ cb, v.oneCell' = true) ∧ e = .returned (.tuple #[.agg ca.toArray, .agg cb.toArray, .bool false])) ∨
  ∃ (T : Topo) (tl : List Nat), T.Ok ∧ g = T.g ∧ p = T.p ∧ s = T.s ∧ n = T.n ∧ ts = tl.map (fun t : Nat => (t : Int)) ∧ Tops T tl ∧ e = .returned (.tuple #[.agg T.szV.toArray, .agg T.fanV.toArray, .bool true])

theorem Tops.push {T : Topo} {tl : List Nat} (h : Tops T tl) (t : Nat) (ht : t ≤ 4) (hp : 1 ≤ T.sz t) (hs : (tl.map T.sz).sum + T.sz t ≤ 65536) : Tops T (tl ++ [t]) := by
  refine ⟨fun x hx => ?_, fun x hx => ?_, by simpa using hs⟩
  · rcases List.mem_append.1 hx with h' | h'
    · exact h.le x h'
    · obtain rfl : x = t := by simpa using h'
      exact ht
  · rcases List.mem_append.1 hx with h' | h'
    · exact h.pos x h'
    · obtain rfl : x = t := by simpa using h'
      exact hp

set_option maxHeartbeats 400000 in
theorem topoOK_range (g p s n : Int) (a : Option Addr) (ts : List Int) (cap : Nat) (w : World) (hno : g < 1 ∨ 65536 < g ∨ p < 1 ∨ 65536 < p ∨ s < 1 ∨ 65536 < s ∨ n < 0 ∨ 65536 < n) :
    Calls Try.prog 8 #[.int .i64 g, .int .i64 p, .int .i64 s, .int .i64 n, .slice a ts.length cap] w fun e w' => Below w.heap.size w w' ∧ TopoRes g p s n ts e := by
  go_enter Try.func8, Try.ntmps8
  go_wp2
  all_goals (go_region; go_wp2; refine bodyPost_ret (topo_ret [_, _, _, _, _] [_, _, _, _, _, _] rfl rfl _ _ _ _ rfl rfl) rfl ?_; exact ⟨four_below _ _ _ _ _, .inl ⟨[_, _, _, _, _], [_, _, _, _, _, _], rfl, rfl, by simp [Value.oneCell'], rfl⟩⟩)

set_option maxRecDepth 100000 in
set_option maxHeartbeats 800000 in
theorem topoOK_in (g p s n : Nat) (a : Option Addr) (ts : List Int) (cap : Nat) (w : World) (hin : TopsIn w a ts) (hl : ts.length ≤ 65536) (hg : 1 ≤ g) (hg' : g ≤ 65536) (hp : 1 ≤ p) (hp' : p ≤ 65536) (hs : 1 ≤ s) (hs' : s ≤ 65536) (hn : n ≤ 65536) :
    Calls Try.prog 8 #[.int .i64 g, .int .i64 p, .int .i64 s, .int .i64 n, .slice a ts.length cap] w fun e w' => Below w.heap.size w w' ∧ TopoRes g p s n ts e := by
  have f2 : 0 ≤ ((g : Int) * (p : Int)) := by exact_mod_cast Nat.zero_le (g * p)
  have f3 : 0 ≤ ((g : Int) * (p : Int) * (s : Int)) := by exact_mod_cast Nat.zero_le (g * p * s)
  have f4 : 0 ≤ ((g : Int) * (p : Int) * (s : Int) * (n : Int)) := by exact_mod_cast Nat.zero_le (g * p * s * n)
  have u2 : ((g : Int) * (p : Int)) ≤ 4294967296 := by
    rw [← Int.natCast_mul]; have := Nat.mul_le_mul hg' hp'; omega
  have u3 : ((g : Int) * (p : Int) * (s : Int)) ≤ 281474976710656 := by
    rw [← Int.natCast_mul, ← Int.natCast_mul]; have := Nat.mul_le_mul (Nat.mul_le_mul hg' hp') hs'; omega
  have d1 : decide ((g : Int) < 1) = false := by simp; omega
  have d2 : decide (65536 < (g : Int)) = false := by simp; omega
  have d3 : decide ((p : Int) < 1) = false := by simp; omega
  have d4 : decide (65536 < (p : Int)) = false := by simp; omega
  have d5 : decide ((s : Int) < 1) = false := by simp; omega
  have d6 : decide (65536 < (s : Int)) = false := by simp; omega
  have d7 : decide ((n : Int) < 0) = false := by simp
  have d8 : decide (65536 < (n : Int)) = false := by simp; omega
  by_cases h3 : ((g : Int) * (p : Int) * (s : Int)) ≤ 2147483647
  · have u4 : ((g : Int) * (p : Int) * (s : Int) * (n : Int)) ≤ 140737488289792 := by
      have := Int.mul_le_mul h3 (show (n : Int) ≤ 65536 by omega) (by omega) (by omega)
      simpa using this
    by_cases h4 : ((g : Int) * (p : Int) * (s : Int) * (n : Int)) ≤ 2147483647
    · obtain ⟨T, hT⟩ : ∃ T : Topo, T = ⟨g, p, s, n⟩ := ⟨_, rfl⟩
      have hok : T.Ok := by
        subst hT
        exact ⟨hg, hp, hs, hg', hp', hs', hn, by have := h3; rw [← Int.natCast_mul, ← Int.natCast_mul] at this; show g * p * s ≤ 2147483647; omega, by have := h4; rw [← Int.natCast_mul, ← Int.natCast_mul, ← Int.natCast_mul] at this; show g * p * s * n ≤ 2147483647; omega⟩
      have hin' := hide hin
      clear hin
      go_enter Try.func8, Try.ntmps8
      go_wp2
      go_loop [15, 16] (fun tot i => ∃ (k S : Nat) (tl : List Nat), k ≤ ts.length ∧ i = .int .i64 k ∧ ts.take k = tl.map (fun t : Nat => (t : Int)) ∧ Tops T tl ∧ S = (tl.map T.sz).sum ∧ tot = .int .i64 S) (fun _ i => ts.length - (intOf i).toNat)
      case atStart => exact ⟨0, 0, [], Nat.zero_le _, rfl, rfl, ⟨by simp, by simp, by simp⟩, rfl, rfl⟩
      case round =>
        obtain ⟨k, S, tl, hk, rfl, htl, htops, hS, rfl⟩ := hrel
        have hS6 : S ≤ 65536 := by rw [hS]; exact htops.sum
        replace htl := hide htl
        replace htops := hide htops
        replace hS := hide hS
        by_cases hlt : k < ts.length
        · obtain ⟨b, o, rfl, hcx, hbl, hb8, hb9⟩ := hin'.out k hlt
          have htk := hide (List.take_append_getElem hlt)
          generalize hx : ts[k] = t at hcx htk hb8 hb9
          have hcx4 : ∀ A B C D : Obj, ((((w.alloc A).alloc B).alloc C).alloc D).cell? ⟨b, o + k, none⟩ = some (.int .i8 t) := fun A B C D => ((four_below w A B C D).cell (p := ⟨b, o + k, none⟩) hbl).trans hcx
          clear hx
          have h5 : t < 0 ∨ 4 < t ∨ t = 0 ∨ t = 1 ∨ t = 2 ∨ t = 3 ∨ t = 4 := by omega
          rcases h5 with h5 | h5 | rfl | rfl | rfl | rfl | rfl
          · go_wp2
            all_goals (go_region; go_wp2; refine bodyPost_ret (topo_ret [_, _, _, _, _] [_, _, _, _, _, _] rfl rfl _ _ _ _ rfl rfl) rfl ?_; exact ⟨four_below _ _ _ _ _, .inl ⟨[_, _, _, _, _], [_, _, _, _, _, _], rfl, rfl, by simp [Value.oneCell'], rfl⟩⟩)
          · go_wp2
            all_goals (go_region; go_wp2; refine bodyPost_ret (topo_ret [_, _, _, _, _] [_, _, _, _, _, _] rfl rfl _ _ _ _ rfl rfl) rfl ?_; exact ⟨four_below _ _ _ _ _, .inl ⟨[_, _, _, _, _], [_, _, _, _, _, _], rfl, rfl, by simp [Value.oneCell'], rfl⟩⟩)
          · have hpos : (1 : Nat) ≤ T.sz 0 := by subst hT; exact Nat.le_refl 1
            have hsz : ((S + T.sz 0 : Nat) : Int) = (S : Int) + 1 := by subst hT; show ((S + (1) : Nat) : Int) = _; simp
            replace hsz := hide hsz
            by_cases ht : 65536 < (S : Int) + 1
            · have hd : decide (65536 < (S : Int) + 1) = true := by simp only [decide_eq_true_eq]; exact ht
              clear ht
              go_wp2
              all_goals (go_region; go_wp2; refine bodyPost_ret (topo_ret [_, _, _, _, _] [_, _, _, _, _, _] rfl rfl _ _ _ _ rfl rfl) rfl ?_; exact ⟨four_below _ _ _ _ _, .inl ⟨[_, _, _, _, _], [_, _, _, _, _, _], rfl, rfl, by simp [Value.oneCell'], rfl⟩⟩)
            · have hd : decide (65536 < (S : Int) + 1) = false := by simp only [decide_eq_false_iff_not]; exact ht
              have ht' : Hid ((S : Int) + 1 ≤ 65536) := Int.not_lt.1 ht
              clear ht
              go_wp2
              go_round
              case rel => exact ⟨k + 1, S + T.sz 0, tl ++ [0], by omega, by simp, by rw [← htk.out, htl.out]; simp, htops.out.push 0 (by omega) hpos (by have := hsz.out; have := hS.out; have := ht'.out; omega), by rw [hS.out]; simp, by rw [hsz.out]⟩
              case measure => simp [intOf]; omega
          · have hpos : (1 : Nat) ≤ T.sz 1 := by subst hT; exact hg
            have hsz : ((S + T.sz 1 : Nat) : Int) = (S : Int) + (g : Int) := by subst hT; show ((S + (g) : Nat) : Int) = _; simp
            replace hsz := hide hsz
            by_cases ht : (S : Int) + (g : Int) ≤ 65536
            · go_wp2
              go_round
              case rel => exact ⟨k + 1, S + T.sz 1, tl ++ [1], by omega, by simp, by rw [← htk.out, htl.out]; simp, htops.out.push 1 (by omega) hpos (by have := hsz.out; have := hS.out; omega), by rw [hS.out]; simp, by rw [hsz.out]⟩
              case measure => simp [intOf]; omega
            · go_wp2
              all_goals (go_region; go_wp2; refine bodyPost_ret (topo_ret [_, _, _, _, _] [_, _, _, _, _, _] rfl rfl _ _ _ _ rfl rfl) rfl ?_; exact ⟨four_below _ _ _ _ _, .inl ⟨[_, _, _, _, _], [_, _, _, _, _, _], rfl, rfl, by simp [Value.oneCell'], rfl⟩⟩)
          · have hpos : (1 : Nat) ≤ T.sz 2 := by subst hT; exact Nat.mul_pos hg hp
            have hsz : ((S + T.sz 2 : Nat) : Int) = (S : Int) + ((g : Int) * (p : Int)) := by subst hT; show ((S + (g * p) : Nat) : Int) = _; simp
            replace hsz := hide hsz
            by_cases ht : (S : Int) + ((g : Int) * (p : Int)) ≤ 65536
            · go_wp2
              go_round
              case rel => exact ⟨k + 1, S + T.sz 2, tl ++ [2], by omega, by simp, by rw [← htk.out, htl.out]; simp, htops.out.push 2 (by omega) hpos (by have := hsz.out; have := hS.out; omega), by rw [hS.out]; simp, by rw [hsz.out]⟩
              case measure => simp [intOf]; omega
            · go_wp2
              all_goals (go_region; go_wp2; refine bodyPost_ret (topo_ret [_, _, _, _, _] [_, _, _, _, _, _] rfl rfl _ _ _ _ rfl rfl) rfl ?_; exact ⟨four_below _ _ _ _ _, .inl ⟨[_, _, _, _, _], [_, _, _, _, _, _], rfl, rfl, by simp [Value.oneCell'], rfl⟩⟩)
          · have hpos : (1 : Nat) ≤ T.sz 3 := by subst hT; exact Nat.mul_pos (Nat.mul_pos hg hp) hs
            have hsz : ((S + T.sz 3 : Nat) : Int) = (S : Int) + ((g : Int) * (p : Int) * (s : Int)) := by subst hT; show ((S + (g * p * s) : Nat) : Int) = _; simp
            replace hsz := hide hsz
            by_cases ht : (S : Int) + ((g : Int) * (p : Int) * (s : Int)) ≤ 65536
            · go_wp2
              go_round
              case rel => exact ⟨k + 1, S + T.sz 3, tl ++ [3], by omega, by simp, by rw [← htk.out, htl.out]; simp, htops.out.push 3 (by omega) hpos (by have := hsz.out; have := hS.out; omega), by rw [hS.out]; simp, by rw [hsz.out]⟩
              case measure => simp [intOf]; omega
            · go_wp2
              all_goals (go_region; go_wp2; refine bodyPost_ret (topo_ret [_, _, _, _, _] [_, _, _, _, _, _] rfl rfl _ _ _ _ rfl rfl) rfl ?_; exact ⟨four_below _ _ _ _ _, .inl ⟨[_, _, _, _, _], [_, _, _, _, _, _], rfl, rfl, by simp [Value.oneCell'], rfl⟩⟩)
          · by_cases hn0 : n = 0
            · subst hn0
              go_wp2
              all_goals (go_region; go_wp2; refine bodyPost_ret (topo_ret [_, _, _, _, _] [_, _, _, _, _, _] rfl rfl _ _ _ _ rfl rfl) rfl ?_; exact ⟨four_below _ _ _ _ _, .inl ⟨[_, _, _, _, _], [_, _, _, _, _, _], rfl, rfl, by simp [Value.oneCell'], rfl⟩⟩)
            · have hpos : (1 : Nat) ≤ T.sz 4 := by
                subst hT; show 1 ≤ g * p * s * n
                exact Nat.mul_pos (Nat.mul_pos (Nat.mul_pos hg hp) hs) (by omega)
              have hsz : ((S + T.sz 4 : Nat) : Int) = (S : Int) + ((g : Int) * (p : Int) * (s : Int) * (n : Int)) := by subst hT; show ((S + (g * p * s * n) : Nat) : Int) = _; simp
              replace hsz := hide hsz
              by_cases ht : (S : Int) + ((g : Int) * (p : Int) * (s : Int) * (n : Int)) ≤ 65536
              · go_wp2
                go_round
                case rel => exact ⟨k + 1, S + T.sz 4, tl ++ [4], by omega, by simp, by rw [← htk.out, htl.out]; simp, htops.out.push 4 (by omega) hpos (by have := hsz.out; have := hS.out; omega), by rw [hS.out]; simp, by rw [hsz.out]⟩
                case measure => simp [intOf]; omega
              · go_wp2
                all_goals (go_region; go_wp2; refine bodyPost_ret (topo_ret [_, _, _, _, _] [_, _, _, _, _, _] rfl rfl _ _ _ _ rfl rfl) rfl ?_; exact ⟨four_below _ _ _ _ _, .inl ⟨[_, _, _, _, _], [_, _, _, _, _, _], rfl, rfl, by simp [Value.oneCell'], rfl⟩⟩)
        · obtain rfl : k = ts.length := by omega
          go_wp2
          go_region
          go_wp2
          refine bodyPost_ret (topo_ret [_, _, _, _, _] [_, _, _, _, _, _] rfl rfl _ _ _ _ rfl rfl) rfl ?_
          refine ⟨four_below _ _ _ _ _, .inr ⟨T, tl, hok, by rw [hT], by rw [hT], by rw [hT], by rw [hT], by have := htl.out; rwa [List.take_length] at this, htops.out, ?_⟩⟩
          subst hT
          simp [Topo.szV, Topo.fanV, Topo.sz, Topo.fan, List.range, List.range.loop]
    · go_enter Try.func8, Try.ntmps8
      go_wp2
      all_goals (go_region; go_wp2; refine bodyPost_ret (topo_ret [_, _, _, _, _] [_, _, _, _, _, _] rfl rfl _ _ _ _ rfl rfl) rfl ?_; exact ⟨four_below _ _ _ _ _, .inl ⟨[_, _, _, _, _], [_, _, _, _, _, _], rfl, rfl, by simp [Value.oneCell'], rfl⟩⟩)
  · go_enter Try.func8, Try.ntmps8
    go_wp2
    all_goals (go_region; go_wp2; refine bodyPost_ret (topo_ret [_, _, _, _, _] [_, _, _, _, _, _] rfl rfl _ _ _ _ rfl rfl) rfl ?_; exact ⟨four_below _ _ _ _ _, .inl ⟨[_, _, _, _, _], [_, _, _, _, _, _], rfl, rfl, by simp [Value.oneCell'], rfl⟩⟩)
end Go.Proofs.Qxb6609507a
