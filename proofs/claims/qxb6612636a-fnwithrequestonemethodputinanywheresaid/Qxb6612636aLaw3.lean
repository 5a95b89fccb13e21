import Derived.Test.Qxb6612636aIter
namespace Go.Proofs.Qxb6612636a
set_option linter.unusedVariables false
set_option linter.unusedSimpArgs false
open Go.ChangeShapes Go.WideShapes Go.ChangeAt Go.RowKit

/-- Pointers to methods in memory from an address on (which an empty list does not look at). -/
def PIn (w : World) (a : Option Addr) (ys : List (Nat × Bool)) : Prop :=
  ∀ k (hk : k < ys.length), ∃ g o, a = some ⟨g, o, none⟩ ∧ w.cell? ⟨g, o + k, none⟩ = some (.pointer (some ⟨ys[k].1, 0, none⟩))
theorem PIn.below {w w' : World} {a : Option Addr} {ys : List (Nat × Bool)} (h : PIn w a ys) (hb : Below w.heap.size w w') : PIn w' a ys := by
  intro k hk
  obtain ⟨g, o, ha, h1⟩ := h k hk
  have hlt : g < w.heap.size := cell_lt h1
  exact ⟨g, o, ha, (hb.cell (p := ⟨g, _, none⟩) hlt).trans h1⟩
theorem pin_of_row {w : World} {B : Nat} {v : Value} {ys : List (Nat × Bool)} (h : w.ownsRow B 27 1 v ys.length (ys.map encM)) : ∃ a cap, v = .slice a ys.length cap ∧ PIn w a ys := by
  rcases h.2 with ⟨rfl, h0⟩ | ⟨g, cap, cur, rfl, _, hg, _, _, hcs, htake⟩
  · exact ⟨none, 0, by rw [h0], fun k hk => by omega⟩
  · refine ⟨some ⟨g, 0, none⟩, cap, rfl, fun k hk => ⟨g, 0, rfl, ?_⟩⟩
    have hk' : k < (ys.map encM).length := by simpa using hk
    have : cur[k]? = some (encM ys[k]) := by
      have e : (cur.toList.take (ys.length * 1))[k]? = (ys.map encM)[k]? := by rw [htake]
      rw [List.getElem?_take_of_lt (by omega)] at e
      simpa [hk] using e
    simp [World.cell?, hg, this, encM, ptr]

def Good (w : World) (e : Ending) (w' : World) : Prop := e = .returned (.bool true) ∧ Below w.heap.size w w'

/-- The methods that zzBuildReq has made, each with its flag. -/
def xsOf (ps : List Nat) (ms : List (ByteArray × Bool)) : List (Nat × Bool) := ps.zip (ms.map (·.2))
theorem xsOf_length {ps : List Nat} {ms : List (ByteArray × Bool)} (h : ps.length = ms.length) : (xsOf ps ms).length = ms.length := by simp [xsOf, h]
theorem xsOf_get {ps : List Nat} {ms : List (ByteArray × Bool)} (h : ps.length = ms.length) (k : Nat) (hk : k < ms.length) : (xsOf ps ms)[k]'(by rw [xsOf_length h]; exact hk) = (ps[k], ms[k].2) := by simp [xsOf]
theorem meths_of {w : World} {g : Nat} {ps : List Nat} {ms : List (ByteArray × Bool)} (h : Pts w g ps ms) : Meths w g 0 (xsOf ps ms) := by
  obtain ⟨hl, hb, hm⟩ := h
  refine ⟨fun j hj => ?_, fun x hx => ?_, hb.lt⟩
  · rw [xsOf_length hl] at hj
    rw [Nat.zero_add, hb.cell, xsOf_get hl j hj]
    simp [encM, hl, hj]
  · obtain ⟨k, hk, rfl⟩ := List.getElem_of_mem hx
    rw [xsOf_length hl] at hk
    rw [xsOf_get hl k hk]
    have := hm k (by omega) hk
    exact ⟨this, this.lt⟩
theorem Meths.take {w : World} {g : Nat} {xs : List (Nat × Bool)} (h : Meths w g 0 xs) (k : Nat) : Meths w g 0 (xs.take k) := by
  refine ⟨fun j hj => ?_, fun x hx => h.2.1 x (List.mem_of_mem_take hx), h.2.2⟩
  have hj' : j < xs.length := by simp at hj; omega
  rw [h.1 j hj']; simp
theorem Meths.drop {w : World} {g : Nat} {xs : List (Nat × Bool)} (h : Meths w g 0 xs) (k : Nat) : Meths w g k (xs.drop k) := by
  refine ⟨fun j hj => ?_, fun x hx => h.2.1 x (List.mem_of_mem_drop hx), h.2.2⟩
  have hj' : k + j < xs.length := by simp at hj; omega
  have := h.1 (k + j) hj'
  rw [Nat.zero_add] at this
  rw [this]; simp
theorem Meths.pin {w : World} {g o : Nat} {xs : List (Nat × Bool)} (h : Meths w g o xs) : PIn w (some ⟨g, o, none⟩) xs := fun k hk => ⟨g, o, rfl, h.1 k hk⟩

theorem dropAll {w : World} {g c : Nat} {xs : List (Nat × Bool)} (h : Meths w g 0 xs) (hc : xs.length = c) : Meths w g 0 (xs.drop c) := by
  have : xs.drop c = [] := by simp; omega
  rw [this]
  exact ⟨fun j hj => by simp at hj, fun x hx => by simp at hx, h.2.2⟩
/-- ZZwithRequest, as the laws call it. -/
theorem zz_at {n : Nat} (g o cap : Nat) (xs ys : List (Nat × Bool)) (w : World) (hn : xs.length = n) (hy : Hid (ys = xs.filter (·.2))) (hm : Meths w g o xs) (hlen : n ≤ 2097152) :
    Calls Try.prog 8 #[.slice (some ⟨g, o, none⟩) n cap] w fun e w' => ∃ a c, e = .returned (.slice a ys.length c) ∧ Hid (PIn w' a ys) ∧ Below w.heap.size w w' := by
  subst hn
  rw [hy.out]
  refine (zzwith_any g o cap xs w hm hlen).mono ?_
  rintro e w' ⟨v, B, rfl, _, hr, hb⟩
  obtain ⟨a, c, rfl, hp⟩ := pin_of_row hr
  exact ⟨a, c, rfl, hp, hb⟩

/-- What the law rests on: the methods and their three filtered rows. -/
structure Cut (ms : List (ByteArray × Bool)) (c : Nat) (xs f l r : List (Nat × Bool)) : Prop where
  len : xs.length = ms.length
  flag : ∀ k (hk : k < ms.length) (hx : k < xs.length), xs[k].2 = ms[k].2
  full : f = xs.filter (·.2)
  left : l = (xs.take c).filter (·.2)
  right : r = (xs.drop c).filter (·.2)
theorem cut_of {w : World} {g : Nat} {ms : List (ByteArray × Bool)} (c : Nat) (h : ∃ ps, Pts w g ps ms) : ∃ xs f l r, Cut ms c xs f l r ∧ Meths w g 0 xs := by
  obtain ⟨ps, h⟩ := h
  exact ⟨xsOf ps ms, _, _, _, ⟨xsOf_length h.1, fun k hk hx => by rw [xsOf_get h.1 k hk], rfl, rfl, rfl⟩, meths_of h⟩

theorem und27 : Try.prog.underlying 27 = some (.pointer (Try.prog.pointee 27)) := by kernel_rfl
theorem some27 : ((Try.prog.info? (Try.prog.pointee 27)).map (·.size)).isSome = true := by kernel_rfl
theorem equalIn_ptr (d n : Nat) (w : World) (p : Addr) (h : (Try.prog.info? (Try.prog.pointee 27)).map (·.size) = some n) : (Op.equalIn (d + 1) 27 (.pointer (some p)) (.pointer (some p))).run Try.prog w = .ok true w := by
  simp only [Op.equalIn, Sem.run_bind, run_underlying und27, Result.andThen, run_sizeOf h]
  split <;> simp [sameAddr]
theorem neq_ptr (w : World) (p : Addr) : (binOp .neq 27 (.pointer (some p)) (.pointer (some p))).run Try.prog w = .ok (.bool false) w := by
  obtain ⟨n, hn⟩ := Option.isSome_iff_exists.1 some27
  have : (Op.equal 27 (.pointer (some p)) (.pointer (some p))).run Try.prog w = .ok true w := equalIn_ptr 9999 n w p hn
  simp only [binOp]
  simp [this]

/-! ### The plain laws of the cut -/
theorem Cut.f_eq {ms : List (ByteArray × Bool)} {c : Nat} {xs f l r : List (Nat × Bool)} (h : Cut ms c xs f l r) : f = l ++ r := by
  rw [h.full, h.left, h.right, ← List.filter_append, List.take_append_drop]
theorem Cut.len_le {ms : List (ByteArray × Bool)} {c : Nat} {xs f l r : List (Nat × Bool)} (h : Cut ms c xs f l r) : f.length ≤ ms.length := by
  rw [← h.len, h.full]; exact List.length_filter_le _ _
/-- How many with a request stand ahead of i. -/
def cnt (xs : List (Nat × Bool)) (i : Nat) : Nat := ((xs.take i).filter (·.2)).length
theorem cnt_succ (xs : List (Nat × Bool)) (i : Nat) (hi : i < xs.length) : cnt xs (i + 1) = cnt xs i + (if xs[i].2 then 1 else 0) := by
  unfold cnt
  rw [← List.take_append_getElem hi, List.filter_append]
  cases h : xs[i].2 <;> simp [h]
theorem cnt_all (xs : List (Nat × Bool)) : cnt xs xs.length = (xs.filter (·.2)).length := by simp [cnt]
theorem cnt_get (xs : List (Nat × Bool)) (i : Nat) (hi : i < xs.length) (h : xs[i].2 = true) : ∃ hk : cnt xs i < (xs.filter (·.2)).length, (xs.filter (·.2))[cnt xs i] = xs[i] := by
  have hp : (xs.take i).filter (·.2) ++ [xs[i]] <+: xs.filter (·.2) := by
    have := (List.take_prefix (i + 1) xs).filter (·.2)
    rw [← List.take_append_getElem hi, List.filter_append] at this
    simpa [h] using this
  obtain ⟨t, ht⟩ := hp
  have hk : cnt xs i < (xs.filter (·.2)).length := by rw [← ht]; simp [cnt]
  refine ⟨hk, ?_⟩
  have e : (xs.filter (·.2))[cnt xs i]? = some xs[i] := by rw [← ht]; simp [cnt]
  rw [List.getElem?_eq_getElem hk] at e
  exact Option.some.inj e

theorem Cut.left_get {ms : List (ByteArray × Bool)} {c : Nat} {xs f l r : List (Nat × Bool)} (h : Cut ms c xs f l r) (k : Nat) (hk : k < l.length) (hf : k < f.length) : f[k] = l[k] := by
  have := h.f_eq; subst this; rw [List.getElem_append_left hk]
theorem Cut.right_get {ms : List (ByteArray × Bool)} {c : Nat} {xs f l r : List (Nat × Bool)} (h : Cut ms c xs f l r) (k : Nat) (hk : k < r.length) (hf : l.length + k < f.length) : f[l.length + k] = r[k] := by
  have := h.f_eq; subst this; rw [List.getElem_append_right (by omega)]; simp
theorem Cut.next {ms : List (ByteArray × Bool)} {c : Nat} {xs f l r : List (Nat × Bool)} (h : Cut ms c xs f l r) (k : Nat) (hk : k < ms.length) (hb : ms[k].2 = true) : ∃ (hx : k < xs.length) (hf : cnt xs k < f.length), f[cnt xs k] = xs[k] ∧ cnt xs (k + 1) = cnt xs k + 1 := by
  have hx : k < xs.length := by rw [h.len]; exact hk
  have e : xs[k].2 = true := by rw [h.flag k hk hx]; exact hb
  obtain ⟨h1, h2⟩ := cnt_get xs k hx e
  have hf := h.full
  subst hf
  exact ⟨hx, h1, h2, by rw [cnt_succ xs k hx, e]; simp⟩
theorem Cut.skip {ms : List (ByteArray × Bool)} {c : Nat} {xs f l r : List (Nat × Bool)} (h : Cut ms c xs f l r) (k : Nat) (hk : k < ms.length) (hb : ms[k].2 = false) : cnt xs (k + 1) = cnt xs k := by
  have hx : k < xs.length := by rw [h.len]; exact hk
  have e : xs[k].2 = false := by rw [h.flag k hk hx]; exact hb
  rw [cnt_succ xs k hx, e]; simp
theorem Cut.all {ms : List (ByteArray × Bool)} {c : Nat} {xs f l r : List (Nat × Bool)} (h : Cut ms c xs f l r) : cnt xs ms.length = f.length := by
  rw [← h.len, cnt_all, h.full]
theorem cnt_le (xs : List (Nat × Bool)) (i : Nat) : cnt xs i ≤ i := by
  unfold cnt
  have := List.length_filter_le (·.2) (xs.take i)
  have := List.length_take_le i xs
  omega
theorem drewN_below (n0 : Nat) (w : World) (n : Nat) : Below n0 w (w.drewN n) := ⟨rfl, rfl, rfl, Nat.le_refl _, fun _ _ => rfl⟩
section
variable {P : Program} {d : Option Tmp} {ty : TypeId} {pos : String} {af : Array Edge} {g : Option (Nat × Bool)} {a : Act}
theorem exec_index1 {t : Nat} (hs : elemSize P t = some 1) {x i : Operand} {b o len cap k : Nat} (hx : a.eval x = .slice (some ⟨b, o, none⟩) len cap) (hi : a.eval i = .int .i64 k) (hk : k < len) (w : World) :
    (execOp a.eval { dst := d, op := .indexAddr t x i, type := ty, pos := pos, after := af, guard := g }).run P w = .ok (.value (.pointer (some ⟨b, o + k, none⟩))) w := by
  have := exec_index (d := d) (ty := ty) (pos := pos) (af := af) (g := g) hs hx hi hk w
  rw [Nat.mul_one] at this; exact this
end
theorem exec_neqp {d : Option Tmp} {ty : TypeId} {pos : String} {af : Array Edge} {g : Option (Nat × Bool)} {a : Act} {x y : Operand} {p : Addr} {t : TypeId} (hx : a.eval x = .pointer (some p)) (hy : a.eval y = .pointer (some p)) (w : World) :
    (execOp a.eval { dst := d, op := .binOp .neq 27 x y t, type := ty, pos := pos, after := af, guard := g }).run Try.prog w = .ok (.value (.bool false)) w := by
  have := neq_ptr w p
  have e : eqGuard .neq 27 x y (.pointer (some p)) (.pointer (some p)) = pure () := rfl
  simp [execOp, hx, hy, this, e]
theorem one27 : oneB Try.prog 27 = true := by kernel_rfl
theorem cellN {w : World} {p : Addr} {v : Value} (h : w.cell? p = some v) : ∀ w', (∃ n, w' = w.drewN n) → w'.cell? p = some v := by
  rintro _ ⟨n, rfl⟩; exact h
section
variable {d : Option Tmp} {ty : TypeId} {pos : String} {af : Array Edge} {g : Option (Nat × Bool)} {a : Act} {x y : Operand} {p q : Nat} {t : TypeId}
theorem exec_add (hx : a.eval x = .int .i64 p) (hy : a.eval y = .int .i64 q) (hb : p + q ≤ 2097152) (w : World) :
    (execOp a.eval { dst := d, op := .binOp .add 3 x y t, type := ty, pos := pos, after := af, guard := g }).run Try.prog w = .ok (.value (.int .i64 ((p + q : Nat) : Int))) w := by
  have h1 : (0 : Int) ≤ (p : Int) + q := by omega
  have h2 : (p : Int) + q ≤ 2097152 := by omega
  simp only [execOp, hx, hy]
  simp [go_sem]
  rw [IntKind.wrap_i64]; omega
theorem exec_geq (hx : a.eval x = .int .i64 p) (hy : a.eval y = .int .i64 q) (hb : p < q) (w : World) :
    (execOp a.eval { dst := d, op := .binOp .geq 3 x y t, type := ty, pos := pos, after := af, guard := g }).run Try.prog w = .ok (.value (.bool false)) w := by
  simp only [execOp, hx, hy]
  simp [go_sem]
  exact hb
end

set_option maxHeartbeats 600000 in
theorem law3_in (a : Option Addr) (ms : List (ByteArray × Bool)) (cap c n : Nat) (w : World) (hn : ms.length = n) (hin : MsIn w a ms) (hl : ms.length ≤ maxLen) (hs : ∀ m ∈ ms, m.1.size ≤ maxLen) (hle : n ≤ 1048576) (hcn : c < n) :
    Calls Try.prog 3 #[.slice a n cap, .int .i64 c] w fun e w' => Good w e w' := by
  have hg5 := hide (bytes5_any a ms cap c w hin hl hs)
  have hg6 := hide (fits_any a ms cap 1048576 w hin hl hs (by omega) (by omega))
  have hg7 := hide (build_any a ms cap w hin (by omega))
  rw [hn] at hg5 hg6 hg7
  go_enter Try.func3, Try.ntmps3
  go_wp2_with (first
    | (go_at_call 5; refine hg5.out.mono ?_; rintro e w' ⟨⟨bb, rfl, hbb⟩, hw⟩; obtain rfl := hw.symm)
    | (go_at_call 6; refine hg6.out.mono ?_; rintro e w' ⟨⟨bb2, rfl⟩, hw⟩; obtain rfl := hw.symm)
    | (go_at_call 7; refine hg7.out.mono ?_; rintro e w1 ⟨rfl, hpts, hl1⟩; obtain ⟨xs, f, l, r, HC, hm1⟩ := cut_of c hpts; replace hpts := True; replace HC := hide HC; replace hm1 := hide hm1))
  · go_ret
    exact ⟨rfl, Below.refl _ _⟩
  · go_ret
    exact ⟨rfl, Below.refl _ _⟩
  · clear hg5 hg6 hg7
    have htl : Hid ((xs.take c).length = c) := by have := HC.out.len; unfold Hid; simp; omega
    have hdl : Hid ((xs.drop c).length = (n - c)) := by have := HC.out.len; unfold Hid; simp; omega
    have hc2 : c ≤ 2097152 := by omega
    have hc3 : (n - c) ≤ 2097152 := by omega
    have hq := zz_at (n := n) w.heap.size 0 n xs f w1 (HC.out.len.trans hn) HC.out.full hm1.out (Nat.le_trans hle (by decide))
    refine hq.mono ?_
    clear hq
    rintro e w2 ⟨a6, c6, rfl, hp6, hl2⟩
    have hm2 := hide (hm1.out.below hl2)
    clear hm1
    go_wp2_with (fail)
    have hq := zz_at (n := c) w.heap.size 0 n (xs.take c) l w2 htl HC.out.left (hm2.out.take c) hc2
    refine hq.mono ?_
    clear hq
    rintro e w3 ⟨a7, c7, rfl, hp7, hl3⟩
    have hm3 := hide (hm2.out.below hl3)
    clear hm2
    go_wp2_with (fail)
    have hq := zz_at (n := (n - c)) w.heap.size c (n - c) (xs.drop c) r w3 hdl HC.out.right (hm3.out.drop c) hc3
    refine hq.mono ?_
    clear hq
    rintro e w4 ⟨a8, c8, rfl, hp8, hl4⟩
    have hm4 := hide (hm3.out.below hl4)
    clear hm3
    have p5 := hide hm4.out.pin
    have p6 := hide ((hp6.out.below hl3).below hl4)
    have p7 := hide (hp7.out.below hl4)
    have hl12 : Below w.heap.size w w2 := hl1.trans (hl2.mono hl1.size)
    have hl13 : Below w.heap.size w w3 := hl12.trans (hl3.mono hl12.size)
    have hl14 : Below w.heap.size w w4 := hl13.trans (hl4.mono hl13.size)
    have HSUM : Hid (f.length = l.length + r.length) := by unfold Hid; rw [HC.out.f_eq]; simp
    have hs3 : (l.length : Int) + (r.length : Int) = (f.length : Int) := by rw [HSUM.out]; simp
    have hfl : f.length ≤ n := hn ▸ HC.out.len_le
    have hin4 := hide (hin.below hl14)
    clear hm4 hp6 hp7 hl1 hl2 hl3 hl4 hl12 hl13 hin hpts htl hdl hc2 hc3
    go_wp2_with (fail)
    go_loopw [9] (fun i wr => ∃ k : Nat, k ≤ l.length ∧ i = .int .i64 k ∧ Below w4.heap.size w4 wr) (fun i _ => l.length - (intOf i).toNat)
    case atStart => exact ⟨0, Nat.zero_le _, rfl, Below.refl _ _⟩
    case round =>
      obtain ⟨k, hk, rfl, hbl⟩ := hrel
      by_cases hlt : k < l.length
      · obtain ⟨g7, o7, rfl, h7⟩ := (p7.out.below hbl) k hlt
        obtain ⟨g6, o6, rfl, h6⟩ := (p6.out.below hbl) k (by omega)
        have he := HC.out.left_get k hlt (by omega)
        rw [he] at h6
        clear he
        generalize hgp : (⟨(l[k]).1, 0, none⟩ : Addr) = ad at h6 h7
        have hne := neq_ptr
        have hkf : k < f.length := by omega
        go_wp2_with (fail)
        refine wp_region_quiet_lit (by kernel_rfl) (by kernel_rfl) ?_
        repeat (first
          | (refine wq_v 56 (.pointer (some ⟨g6, o6 + k, none⟩)) rfl (fun w' _ => exec_index1 es24 rfl rfl hkf w') ?_; simp only [Act.put, List.setIfInBounds_toArray, List.set_cons_succ, List.set_cons_zero])
          | (refine wq_v 57 (.pointer (some ad)) rfl (fun w' hw' => exec_load1 one27 rfl (cellN h6 w' hw')) ?_; simp only [Act.put, List.setIfInBounds_toArray, List.set_cons_succ, List.set_cons_zero])
          | (refine wq_v 60 (.pointer (some ⟨g7, o7 + k, none⟩)) rfl (fun w' _ => exec_index1 es24 rfl rfl hlt w') ?_; simp only [Act.put, List.setIfInBounds_toArray, List.set_cons_succ, List.set_cons_zero])
          | (refine wq_v 61 (.pointer (some ad)) rfl (fun w' hw' => exec_load1 one27 rfl (cellN h7 w' hw')) ?_; simp only [Act.put, List.setIfInBounds_toArray, List.set_cons_succ, List.set_cons_zero])
          | (refine wq_v 62 (.bool false) rfl (fun w' _ => exec_neqp rfl rfl w') ?_; simp only [Act.put, List.setIfInBounds_toArray, List.set_cons_succ, List.set_cons_zero])
          | quiet_step (fail))
        refine wpQuiet_nil ?_
        rintro _ ⟨nq, rfl⟩
        go_wp2_with (fail)
        go_roundw
        case rel => exact ⟨k + 1, by omega, by simp, hbl.trans (drewN_below _ _ _)⟩
        case measure => simp [intOf]; omega
      · go_wp2_with (fail)
        clear hlt hk
        go_loopw [10] (fun i wr => ∃ k : Nat, k ≤ r.length ∧ i = .int .i64 k ∧ Below w4.heap.size w4 wr) (fun i _ => r.length - (intOf i).toNat)
        case atStart => exact ⟨0, Nat.zero_le _, rfl, hbl⟩
        case round =>
          clear hbl
          rename_i wr2
          obtain ⟨k, hk, rfl, hbl⟩ := hrel
          by_cases hlt : k < r.length
          · obtain ⟨g8, o8, rfl, h8⟩ := (hp8.out.below hbl) k hlt
            obtain ⟨g6, o6, rfl, h6⟩ := (p6.out.below hbl) (l.length + k) (by omega)
            have he := HC.out.right_get k hlt (by omega)
            rw [he] at h6
            clear he
            generalize hgp : (⟨(r[k]).1, 0, none⟩ : Addr) = ad at h6 h8
            have hkf : l.length + k < f.length := by omega
            go_wp2_with (fail)
            refine wp_region_quiet_lit (by kernel_rfl) (by kernel_rfl) ?_
            repeat (first
              | (refine wq_v 73 (.int .i64 ((l.length + k : Nat) : Int)) rfl (fun w' _ => exec_add rfl rfl (by omega) w') ?_; simp only [Act.put, List.setIfInBounds_toArray, List.set_cons_succ, List.set_cons_zero])
              | (refine wq_v 74 (.pointer (some ⟨g6, o6 + (l.length + k), none⟩)) rfl (fun w' _ => exec_index1 es24 rfl rfl hkf w') ?_; simp only [Act.put, List.setIfInBounds_toArray, List.set_cons_succ, List.set_cons_zero])
              | (refine wq_v 75 (.pointer (some ad)) rfl (fun w' hw' => exec_load1 one27 rfl (cellN h6 w' hw')) ?_; simp only [Act.put, List.setIfInBounds_toArray, List.set_cons_succ, List.set_cons_zero])
              | (refine wq_v 78 (.pointer (some ⟨g8, o8 + k, none⟩)) rfl (fun w' _ => exec_index1 es24 rfl rfl hlt w') ?_; simp only [Act.put, List.setIfInBounds_toArray, List.set_cons_succ, List.set_cons_zero])
              | (refine wq_v 79 (.pointer (some ad)) rfl (fun w' hw' => exec_load1 one27 rfl (cellN h8 w' hw')) ?_; simp only [Act.put, List.setIfInBounds_toArray, List.set_cons_succ, List.set_cons_zero])
              | (refine wq_v 80 (.bool false) rfl (fun w' _ => exec_neqp rfl rfl w') ?_; simp only [Act.put, List.setIfInBounds_toArray, List.set_cons_succ, List.set_cons_zero])
              | quiet_step (fail))
            refine wpQuiet_nil ?_
            rintro _ ⟨nq, rfl⟩
            go_wp2_with (fail)
            go_roundw
            case rel => exact ⟨k + 1, by omega, by simp, hbl.trans (drewN_below _ _ _)⟩
            case measure => simp [intOf]; omega
          · go_wp2_with (fail)
            clear hlt hk
            go_loopw [11, 12] (fun q i wr => ∃ k : Nat, k ≤ n ∧ i = .int .i64 k ∧ q = .int .i64 (cnt xs k) ∧ Below w4.heap.size w4 wr) (fun _ i _ => n - (intOf i).toNat)
            case atStart => exact ⟨0, Nat.zero_le _, rfl, by simp [cnt], hbl⟩
            case round =>
              clear hbl
              rename_i wr3
              obtain ⟨k, hk, rfl, rfl, hbl⟩ := hrel
              by_cases hlt : k < n
              · have hkm : k < ms.length := by omega
                obtain ⟨bb3, o3, rfl, _, hcb⟩ := (hin4.out.below hbl) k hkm
                cases hb : (ms[k]).2 with
                | true =>
                  rw [hb] at hcb
                  obtain ⟨hx, hf, hfe, hcn1⟩ := HC.out.next k hkm hb
                  obtain ⟨g6, o6, rfl, h6⟩ := (p6.out.below hbl) (cnt xs k) hf
                  obtain ⟨g5, o5, e5, h5⟩ := (p5.out.below hbl) k hx
                  simp only [Option.some.injEq, Addr.mk.injEq, and_true] at e5
                  obtain ⟨rfl, rfl⟩ := e5
                  rw [hfe] at h6
                  have HNX := hide hcn1
                  clear hfe hcn1
                  generalize hgp : (⟨(xs[k]).1, 0, none⟩ : Addr) = ad at h6 h5
                  obtain ⟨q, hq⟩ : ∃ q, cnt xs k = q := ⟨_, rfl⟩
                  rw [hq] at hf h6 HNX ⊢
                  clear hq
                  have hkf : q < f.length := by omega
                  go_wp2_with (fail)
                  refine wp_region_quiet_lit (by kernel_rfl) (by kernel_rfl) ?_
                  repeat (first
                    | (refine wq_v 95 (.bool false) rfl (fun w' _ => exec_geq rfl rfl hkf w') ?_; simp only [Act.put, List.setIfInBounds_toArray, List.set_cons_succ, List.set_cons_zero])
                    | (refine wq_v 97 (.slice (some ⟨g6, o6, none⟩) f.length c6) rfl (fun _ _ => rfl) ?_; simp only [Act.put, List.setIfInBounds_toArray, List.set_cons_succ, List.set_cons_zero])
                    | (refine wq_v 98 (.int .i64 q) rfl (fun _ _ => rfl) ?_; simp only [Act.put, List.setIfInBounds_toArray, List.set_cons_succ, List.set_cons_zero])
                    | (refine wq_v 99 (.pointer (some ⟨g6, o6 + q, none⟩)) rfl (fun w' _ => exec_index1 es24 rfl rfl hkf w') ?_; simp only [Act.put, List.setIfInBounds_toArray, List.set_cons_succ, List.set_cons_zero])
                    | (refine wq_v 100 (.pointer (some ad)) rfl (fun w' hw' => exec_load1 one27 rfl (cellN h6 w' hw')) ?_; simp only [Act.put, List.setIfInBounds_toArray, List.set_cons_succ, List.set_cons_zero])
                    | (refine wq_v 101 (.slice (some ⟨w.heap.size, 0, none⟩) n n) rfl (fun _ _ => rfl) ?_; simp only [Act.put, List.setIfInBounds_toArray, List.set_cons_succ, List.set_cons_zero])
                    | (refine wq_v 102 (.int .i64 k) rfl (fun _ _ => rfl) ?_; simp only [Act.put, List.setIfInBounds_toArray, List.set_cons_succ, List.set_cons_zero])
                    | (refine wq_v 103 (.pointer (some ⟨w.heap.size, 0 + k, none⟩)) rfl (fun w' _ => exec_index1 es24 rfl rfl hlt w') ?_; simp only [Act.put, List.setIfInBounds_toArray, List.set_cons_succ, List.set_cons_zero])
                    | (refine wq_v 104 (.pointer (some ad)) rfl (fun w' hw' => exec_load1 one27 rfl (cellN h5 w' hw')) ?_; simp only [Act.put, List.setIfInBounds_toArray, List.set_cons_succ, List.set_cons_zero])
                    | (refine wq_v 105 (.bool false) rfl (fun w' _ => exec_neqp rfl rfl w') ?_; simp only [Act.put, List.setIfInBounds_toArray, List.set_cons_succ, List.set_cons_zero])
                    | (refine wq_v 106 (.bool false) rfl (fun _ _ => rfl) ?_; simp only [Act.put, List.setIfInBounds_toArray, List.set_cons_succ, List.set_cons_zero])
                    | quiet_step (fail))
                  refine wpQuiet_nil ?_
                  rintro _ ⟨nq, rfl⟩
                  go_wp2_with (fail)
                  go_roundw
                  case rel => exact ⟨k + 1, by omega, by simp, by rw [HNX.out]; simp, hbl.trans (drewN_below _ _ _)⟩
                  case measure => simp [intOf]; omega
                | false =>
                  rw [hb] at hcb
                  have hcn1 := hide (HC.out.skip k hkm hb)
                  have hqk := cnt_le xs k
                  go_wp2_with (fail)
                  go_roundw
                  case rel => exact ⟨k + 1, by omega, by simp, by rw [hcn1.out], hbl⟩
                  case measure => simp [intOf]; omega
              · have hke : k = ms.length := by omega
                have hall : cnt xs k = f.length := by rw [hke, HC.out.all]
                clear hke
                rw [hall]
                clear hall
                go_wp2_with (fail)
                go_ret
                exact ⟨by simp, hl14.trans (hbl.mono hl14.size)⟩

set_option maxHeartbeats 600000 in
theorem law3_end (a : Option Addr) (ms : List (ByteArray × Bool)) (cap c : Nat) (w : World) (hn : ms.length = c) (hin : MsIn w a ms) (hl : ms.length ≤ maxLen) (hs : ∀ m ∈ ms, m.1.size ≤ maxLen) (hle : c ≤ 1048576)  :
    Calls Try.prog 3 #[.slice a c cap, .int .i64 c] w fun e w' => Good w e w' := by
  have hg5 := hide (bytes5_any a ms cap c w hin hl hs)
  have hg6 := hide (fits_any a ms cap 1048576 w hin hl hs (by omega) (by omega))
  have hg7 := hide (build_any a ms cap w hin (by omega))
  rw [hn] at hg5 hg6 hg7
  go_enter Try.func3, Try.ntmps3
  go_wp2_with (first
    | (go_at_call 5; refine hg5.out.mono ?_; rintro e w' ⟨⟨bb, rfl, hbb⟩, hw⟩; obtain rfl := hw.symm)
    | (go_at_call 6; refine hg6.out.mono ?_; rintro e w' ⟨⟨bb2, rfl⟩, hw⟩; obtain rfl := hw.symm)
    | (go_at_call 7; refine hg7.out.mono ?_; rintro e w1 ⟨rfl, hpts, hl1⟩; obtain ⟨xs, f, l, r, HC, hm1⟩ := cut_of c hpts; replace hpts := True; replace HC := hide HC; replace hm1 := hide hm1))
  · go_ret
    exact ⟨rfl, Below.refl _ _⟩
  · go_ret
    exact ⟨rfl, Below.refl _ _⟩
  · clear hg5 hg6 hg7
    have htl : Hid ((xs.take c).length = c) := by have := HC.out.len; unfold Hid; simp; omega
    have hdl : Hid ((xs.drop c).length = 0) := by have := HC.out.len; unfold Hid; simp; omega
    have hc2 : c ≤ 2097152 := by omega
    have hc3 : 0 ≤ 2097152 := by omega
    have hq := zz_at (n := c) w.heap.size 0 c xs f w1 (HC.out.len.trans hn) HC.out.full hm1.out (Nat.le_trans hle (by decide))
    refine hq.mono ?_
    clear hq
    rintro e w2 ⟨a6, c6, rfl, hp6, hl2⟩
    have hm2 := hide (hm1.out.below hl2)
    clear hm1
    go_wp2_with (fail)
    have hq := zz_at (n := c) w.heap.size 0 c (xs.take c) l w2 htl HC.out.left (hm2.out.take c) hc2
    refine hq.mono ?_
    clear hq
    rintro e w3 ⟨a7, c7, rfl, hp7, hl3⟩
    have hm3 := hide (hm2.out.below hl3)
    clear hm2
    go_wp2_with (fail)
    have hq := zz_at (n := 0) w.heap.size 0 0 (xs.drop c) r w3 hdl HC.out.right (dropAll hm3.out (HC.out.len.trans hn)) hc3
    refine hq.mono ?_
    clear hq
    rintro e w4 ⟨a8, c8, rfl, hp8, hl4⟩
    have hm4 := hide (hm3.out.below hl4)
    clear hm3
    have p5 := hide hm4.out.pin
    have p6 := hide ((hp6.out.below hl3).below hl4)
    have p7 := hide (hp7.out.below hl4)
    have hl12 : Below w.heap.size w w2 := hl1.trans (hl2.mono hl1.size)
    have hl13 : Below w.heap.size w w3 := hl12.trans (hl3.mono hl12.size)
    have hl14 : Below w.heap.size w w4 := hl13.trans (hl4.mono hl13.size)
    have HSUM : Hid (f.length = l.length + r.length) := by unfold Hid; rw [HC.out.f_eq]; simp
    have hs3 : (l.length : Int) + (r.length : Int) = (f.length : Int) := by rw [HSUM.out]; simp
    have hfl : f.length ≤ c := hn ▸ HC.out.len_le
    have hin4 := hide (hin.below hl14)
    clear hm4 hp6 hp7 hl1 hl2 hl3 hl4 hl12 hl13 hin hpts htl hdl hc2 hc3
    go_wp2_with (fail)
    go_loopw [9] (fun i wr => ∃ k : Nat, k ≤ l.length ∧ i = .int .i64 k ∧ Below w4.heap.size w4 wr) (fun i _ => l.length - (intOf i).toNat)
    case atStart => exact ⟨0, Nat.zero_le _, rfl, Below.refl _ _⟩
    case round =>
      obtain ⟨k, hk, rfl, hbl⟩ := hrel
      by_cases hlt : k < l.length
      · obtain ⟨g7, o7, rfl, h7⟩ := (p7.out.below hbl) k hlt
        obtain ⟨g6, o6, rfl, h6⟩ := (p6.out.below hbl) k (by omega)
        have he := HC.out.left_get k hlt (by omega)
        rw [he] at h6
        clear he
        generalize hgp : (⟨(l[k]).1, 0, none⟩ : Addr) = ad at h6 h7
        have hne := neq_ptr
        have hkf : k < f.length := by omega
        go_wp2_with (fail)
        refine wp_region_quiet_lit (by kernel_rfl) (by kernel_rfl) ?_
        repeat (first
          | (refine wq_v 56 (.pointer (some ⟨g6, o6 + k, none⟩)) rfl (fun w' _ => exec_index1 es24 rfl rfl hkf w') ?_; simp only [Act.put, List.setIfInBounds_toArray, List.set_cons_succ, List.set_cons_zero])
          | (refine wq_v 57 (.pointer (some ad)) rfl (fun w' hw' => exec_load1 one27 rfl (cellN h6 w' hw')) ?_; simp only [Act.put, List.setIfInBounds_toArray, List.set_cons_succ, List.set_cons_zero])
          | (refine wq_v 60 (.pointer (some ⟨g7, o7 + k, none⟩)) rfl (fun w' _ => exec_index1 es24 rfl rfl hlt w') ?_; simp only [Act.put, List.setIfInBounds_toArray, List.set_cons_succ, List.set_cons_zero])
          | (refine wq_v 61 (.pointer (some ad)) rfl (fun w' hw' => exec_load1 one27 rfl (cellN h7 w' hw')) ?_; simp only [Act.put, List.setIfInBounds_toArray, List.set_cons_succ, List.set_cons_zero])
          | (refine wq_v 62 (.bool false) rfl (fun w' _ => exec_neqp rfl rfl w') ?_; simp only [Act.put, List.setIfInBounds_toArray, List.set_cons_succ, List.set_cons_zero])
          | quiet_step (fail))
        refine wpQuiet_nil ?_
        rintro _ ⟨nq, rfl⟩
        go_wp2_with (fail)
        go_roundw
        case rel => exact ⟨k + 1, by omega, by simp, hbl.trans (drewN_below _ _ _)⟩
        case measure => simp [intOf]; omega
      · go_wp2_with (fail)
        clear hlt hk
        go_loopw [10] (fun i wr => ∃ k : Nat, k ≤ r.length ∧ i = .int .i64 k ∧ Below w4.heap.size w4 wr) (fun i _ => r.length - (intOf i).toNat)
        case atStart => exact ⟨0, Nat.zero_le _, rfl, hbl⟩
        case round =>
          clear hbl
          rename_i wr2
          obtain ⟨k, hk, rfl, hbl⟩ := hrel
          by_cases hlt : k < r.length
          · obtain ⟨g8, o8, rfl, h8⟩ := (hp8.out.below hbl) k hlt
            obtain ⟨g6, o6, rfl, h6⟩ := (p6.out.below hbl) (l.length + k) (by omega)
            have he := HC.out.right_get k hlt (by omega)
            rw [he] at h6
            clear he
            generalize hgp : (⟨(r[k]).1, 0, none⟩ : Addr) = ad at h6 h8
            have hkf : l.length + k < f.length := by omega
            go_wp2_with (fail)
            refine wp_region_quiet_lit (by kernel_rfl) (by kernel_rfl) ?_
            repeat (first
              | (refine wq_v 73 (.int .i64 ((l.length + k : Nat) : Int)) rfl (fun w' _ => exec_add rfl rfl (by omega) w') ?_; simp only [Act.put, List.setIfInBounds_toArray, List.set_cons_succ, List.set_cons_zero])
              | (refine wq_v 74 (.pointer (some ⟨g6, o6 + (l.length + k), none⟩)) rfl (fun w' _ => exec_index1 es24 rfl rfl hkf w') ?_; simp only [Act.put, List.setIfInBounds_toArray, List.set_cons_succ, List.set_cons_zero])
              | (refine wq_v 75 (.pointer (some ad)) rfl (fun w' hw' => exec_load1 one27 rfl (cellN h6 w' hw')) ?_; simp only [Act.put, List.setIfInBounds_toArray, List.set_cons_succ, List.set_cons_zero])
              | (refine wq_v 78 (.pointer (some ⟨g8, o8 + k, none⟩)) rfl (fun w' _ => exec_index1 es24 rfl rfl hlt w') ?_; simp only [Act.put, List.setIfInBounds_toArray, List.set_cons_succ, List.set_cons_zero])
              | (refine wq_v 79 (.pointer (some ad)) rfl (fun w' hw' => exec_load1 one27 rfl (cellN h8 w' hw')) ?_; simp only [Act.put, List.setIfInBounds_toArray, List.set_cons_succ, List.set_cons_zero])
              | (refine wq_v 80 (.bool false) rfl (fun w' _ => exec_neqp rfl rfl w') ?_; simp only [Act.put, List.setIfInBounds_toArray, List.set_cons_succ, List.set_cons_zero])
              | quiet_step (fail))
            refine wpQuiet_nil ?_
            rintro _ ⟨nq, rfl⟩
            go_wp2_with (fail)
            go_roundw
            case rel => exact ⟨k + 1, by omega, by simp, hbl.trans (drewN_below _ _ _)⟩
            case measure => simp [intOf]; omega
          · go_wp2_with (fail)
            clear hlt hk
            go_loopw [11, 12] (fun q i wr => ∃ k : Nat, k ≤ c ∧ i = .int .i64 k ∧ q = .int .i64 (cnt xs k) ∧ Below w4.heap.size w4 wr) (fun _ i _ => c - (intOf i).toNat)
            case atStart => exact ⟨0, Nat.zero_le _, rfl, by simp [cnt], hbl⟩
            case round =>
              clear hbl
              rename_i wr3
              obtain ⟨k, hk, rfl, rfl, hbl⟩ := hrel
              by_cases hlt : k < c
              · have hkm : k < ms.length := by omega
                obtain ⟨bb3, o3, rfl, _, hcb⟩ := (hin4.out.below hbl) k hkm
                cases hb : (ms[k]).2 with
                | true =>
                  rw [hb] at hcb
                  obtain ⟨hx, hf, hfe, hcn1⟩ := HC.out.next k hkm hb
                  obtain ⟨g6, o6, rfl, h6⟩ := (p6.out.below hbl) (cnt xs k) hf
                  obtain ⟨g5, o5, e5, h5⟩ := (p5.out.below hbl) k hx
                  simp only [Option.some.injEq, Addr.mk.injEq, and_true] at e5
                  obtain ⟨rfl, rfl⟩ := e5
                  rw [hfe] at h6
                  have HNX := hide hcn1
                  clear hfe hcn1
                  generalize hgp : (⟨(xs[k]).1, 0, none⟩ : Addr) = ad at h6 h5
                  obtain ⟨q, hq⟩ : ∃ q, cnt xs k = q := ⟨_, rfl⟩
                  rw [hq] at hf h6 HNX ⊢
                  clear hq
                  have hkf : q < f.length := by omega
                  go_wp2_with (fail)
                  refine wp_region_quiet_lit (by kernel_rfl) (by kernel_rfl) ?_
                  repeat (first
                    | (refine wq_v 95 (.bool false) rfl (fun w' _ => exec_geq rfl rfl hkf w') ?_; simp only [Act.put, List.setIfInBounds_toArray, List.set_cons_succ, List.set_cons_zero])
                    | (refine wq_v 97 (.slice (some ⟨g6, o6, none⟩) f.length c6) rfl (fun _ _ => rfl) ?_; simp only [Act.put, List.setIfInBounds_toArray, List.set_cons_succ, List.set_cons_zero])
                    | (refine wq_v 98 (.int .i64 q) rfl (fun _ _ => rfl) ?_; simp only [Act.put, List.setIfInBounds_toArray, List.set_cons_succ, List.set_cons_zero])
                    | (refine wq_v 99 (.pointer (some ⟨g6, o6 + q, none⟩)) rfl (fun w' _ => exec_index1 es24 rfl rfl hkf w') ?_; simp only [Act.put, List.setIfInBounds_toArray, List.set_cons_succ, List.set_cons_zero])
                    | (refine wq_v 100 (.pointer (some ad)) rfl (fun w' hw' => exec_load1 one27 rfl (cellN h6 w' hw')) ?_; simp only [Act.put, List.setIfInBounds_toArray, List.set_cons_succ, List.set_cons_zero])
                    | (refine wq_v 101 (.slice (some ⟨w.heap.size, 0, none⟩) c c) rfl (fun _ _ => rfl) ?_; simp only [Act.put, List.setIfInBounds_toArray, List.set_cons_succ, List.set_cons_zero])
                    | (refine wq_v 102 (.int .i64 k) rfl (fun _ _ => rfl) ?_; simp only [Act.put, List.setIfInBounds_toArray, List.set_cons_succ, List.set_cons_zero])
                    | (refine wq_v 103 (.pointer (some ⟨w.heap.size, 0 + k, none⟩)) rfl (fun w' _ => exec_index1 es24 rfl rfl hlt w') ?_; simp only [Act.put, List.setIfInBounds_toArray, List.set_cons_succ, List.set_cons_zero])
                    | (refine wq_v 104 (.pointer (some ad)) rfl (fun w' hw' => exec_load1 one27 rfl (cellN h5 w' hw')) ?_; simp only [Act.put, List.setIfInBounds_toArray, List.set_cons_succ, List.set_cons_zero])
                    | (refine wq_v 105 (.bool false) rfl (fun w' _ => exec_neqp rfl rfl w') ?_; simp only [Act.put, List.setIfInBounds_toArray, List.set_cons_succ, List.set_cons_zero])
                    | (refine wq_v 106 (.bool false) rfl (fun _ _ => rfl) ?_; simp only [Act.put, List.setIfInBounds_toArray, List.set_cons_succ, List.set_cons_zero])
                    | quiet_step (fail))
                  refine wpQuiet_nil ?_
                  rintro _ ⟨nq, rfl⟩
                  go_wp2_with (fail)
                  go_roundw
                  case rel => exact ⟨k + 1, by omega, by simp, by rw [HNX.out]; simp, hbl.trans (drewN_below _ _ _)⟩
                  case measure => simp [intOf]; omega
                | false =>
                  rw [hb] at hcb
                  have hcn1 := hide (HC.out.skip k hkm hb)
                  have hqk := cnt_le xs k
                  go_wp2_with (fail)
                  go_roundw
                  case rel => exact ⟨k + 1, by omega, by simp, by rw [hcn1.out], hbl⟩
                  case measure => simp [intOf]; omega
              · have hke : k = ms.length := by omega
                have hall : cnt xs k = f.length := by rw [hke, HC.out.all]
                clear hke
                rw [hall]
                clear hall
                go_wp2_with (fail)
                go_ret
                exact ⟨by simp, hl14.trans (hbl.mono hl14.size)⟩

set_option maxHeartbeats 1000000 in
theorem law3 (a : Option Addr) (ms : List (ByteArray × Bool)) (cap : Nat) (i : Int) (w : World) (hin : MsIn w a ms) (hl : ms.length ≤ maxLen) (hs : ∀ m ∈ ms, m.1.size ≤ maxLen) :
    Calls Try.prog 3 #[.slice a ms.length cap, .int .i64 i] w fun e w' => Good w e w' := by
  have hl' := hl
  unfold maxLen at hl'
  by_cases hgo : ms.length ≤ 1048576 ∧ 0 ≤ i ∧ i ≤ ms.length
  · obtain ⟨hle, hi0, hi1⟩ := hgo
    obtain ⟨c, rfl⟩ := Int.eq_ofNat_of_zero_le hi0
    by_cases hc : c < ms.length
    · exact law3_in a ms cap c ms.length w rfl hin hl hs hle hc
    · obtain rfl : c = ms.length := by omega
      exact law3_end a ms cap ms.length w rfl hin hl hs hle
  · have hno : 1048576 < ms.length ∨ (ms.length ≤ 1048576 ∧ i < 0) ∨ (ms.length ≤ 1048576 ∧ 0 ≤ i ∧ (ms.length : Int) < i) := by omega
    clear hgo
    have hg5 := hide (bytes5_any a ms cap i w hin hl hs)
    have hg6 := hide (fits_any a ms cap 1048576 w hin hl hs (by omega) (by omega))
    clear hin hs
    rcases hno with h1 | ⟨h1, h2⟩ | ⟨h1, h2, h3⟩
    · go_enter Try.func3, Try.ntmps3
      go_wp2_with (go_at_call 5; refine hg5.out.mono ?_; rintro e w' ⟨⟨bb, rfl, hbb⟩, hw⟩; obtain rfl := hw.symm; obtain rfl : bb = false := (by cases bb; rfl; exact absurd (hbb rfl) (by omega)))
      go_ret
      exact ⟨rfl, Below.refl _ _⟩
    all_goals
      go_enter Try.func3, Try.ntmps3
      go_wp2_with (first
        | (go_at_call 5; refine hg5.out.mono ?_; rintro e w' ⟨⟨bb, rfl, hbb⟩, hw⟩; obtain rfl := hw.symm)
        | (go_at_call 6; refine hg6.out.mono ?_; rintro e w' ⟨⟨bb2, rfl⟩, hw⟩; obtain rfl := hw.symm))
      all_goals
        go_ret
        exact ⟨rfl, Below.refl _ _⟩
end Go.Proofs.Qxb6612636a
