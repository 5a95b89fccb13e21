import Derived.Test.Qxb6612636aLaw3
import Derived.Deep.DeepAppendRoom
namespace Go.Proofs.Qxb6612636a
set_option linter.unusedVariables false
set_option linter.unusedSimpArgs false
open Go.ChangeShapes Go.WideShapes Go.ChangeAt Go.RowKit

theorem PIn.get {w : World} {a : Option Addr} {ys : List (Nat × Bool)} (h : PIn w a ys) {k : Nat} {x : Nat × Bool} (hk : ys[k]? = some x) : ∃ g o, a = some ⟨g, o, none⟩ ∧ w.cell? ⟨g, o + k, none⟩ = some (.pointer (some ⟨x.1, 0, none⟩)) := by
  obtain ⟨hlt, rfl⟩ := List.getElem?_eq_some_iff.1 hk
  exact h k hlt

set_option maxHeartbeats 1000000 in
/-- zzSameMethods (function 11), at two slices of the same methods. -/
theorem same_any (a b : Option Addr) (ys : List (Nat × Bool)) (n c1 c2 : Nat) (w : World) (hn : ys.length = n) (ha : PIn w a ys) (hb : PIn w b ys) (hl : n ≤ 2097152) :
    Calls Try.prog 11 #[.slice a n c1, .slice b n c2] w fun e w' => e = .returned (.bool true) ∧ Below w.heap.size w w' := by
  replace ha := hide ha
  replace hb := hide hb
  go_enter Try.func11, Try.ntmps11
  go_wp2_with (fail)
  go_loopw [5] (fun i wr => ∃ k : Nat, k ≤ n ∧ i = .int .i64 k ∧ Below w.heap.size w wr) (fun i _ => n - (intOf i).toNat)
  case atStart => exact ⟨0, Nat.zero_le _, rfl, Below.refl _ _⟩
  case round =>
    obtain ⟨k, hk, rfl, hbl⟩ := hrel
    by_cases hlt : k < n
    · obtain ⟨g6, o6, rfl, h6⟩ := (ha.out.below hbl) k (by omega)
      obtain ⟨g7, o7, rfl, h7⟩ := (hb.out.below hbl) k (by omega)
      generalize hgp : (⟨(ys[k]'(by omega)).1, 0, none⟩ : Addr) = ad at h6 h7
      go_wp2_with (fail)
      refine wp_region_quiet_lit (by kernel_rfl) (by kernel_rfl) ?_
      repeat (first
        | (refine wq_v 19 (.pointer (some ⟨g6, o6 + k, none⟩)) rfl (fun w' _ => exec_index1 es24 rfl rfl hlt w') ?_; simp only [Act.put, List.setIfInBounds_toArray, List.set_cons_succ, List.set_cons_zero])
        | (refine wq_v 20 (.pointer (some ad)) rfl (fun w' hw' => exec_load1 one27 rfl (cellN h6 w' hw')) ?_; simp only [Act.put, List.setIfInBounds_toArray, List.set_cons_succ, List.set_cons_zero])
        | (refine wq_v 23 (.pointer (some ⟨g7, o7 + k, none⟩)) rfl (fun w' _ => exec_index1 es24 rfl rfl hlt w') ?_; simp only [Act.put, List.setIfInBounds_toArray, List.set_cons_succ, List.set_cons_zero])
        | (refine wq_v 24 (.pointer (some ad)) rfl (fun w' hw' => exec_load1 one27 rfl (cellN h7 w' hw')) ?_; simp only [Act.put, List.setIfInBounds_toArray, List.set_cons_succ, List.set_cons_zero])
        | (refine wq_v 25 (.bool false) rfl (fun w' _ => exec_neqp rfl rfl w') ?_; simp only [Act.put, List.setIfInBounds_toArray, List.set_cons_succ, List.set_cons_zero])
        | quiet_step (fail))
      refine wpQuiet_nil ?_
      rintro _ ⟨nq, rfl⟩
      go_wp2_with (fail)
      go_roundw
      case rel => exact ⟨k + 1, by omega, by simp, hbl.trans (drewN_below _ _ _)⟩
      case measure => simp [intOf]; omega
    · go_wp2_with (fail)
      go_ret
      exact ⟨rfl, hbl⟩

/-- The methods, with one more put in at c. -/
def putIn (xs : List (Nat × Bool)) (c : Nat) (x : Nat × Bool) : List (Nat × Bool) := xs.take c ++ x :: xs.drop c
structure Put (ms : List (ByteArray × Bool)) (c : Nat) (xs : List (Nat × Bool)) (e : Nat) (has : Bool) (F G : List (Nat × Bool)) : Prop where
  len : xs.length = ms.length
  flag : ∀ k (hk : k < ms.length) (hx : k < xs.length), xs[k].2 = ms[k].2
  full : F = xs.filter (·.2)
  more : G = (putIn xs c (e, has)).filter (·.2)
section
variable {ms : List (ByteArray × Bool)} {c e : Nat} {xs F G : List (Nat × Bool)} {has : Bool}
theorem Put.F_eq (h : Put ms c xs e has F G) : F = (xs.take c).filter (·.2) ++ (xs.drop c).filter (·.2) := by
  rw [h.full, ← List.filter_append, List.take_append_drop]
theorem Put.G_true (h : Put ms c xs e true F G) : G = (xs.take c).filter (·.2) ++ (e, true) :: (xs.drop c).filter (·.2) := by
  rw [h.more]; simp [putIn]
theorem Put.G_false (h : Put ms c xs e false F G) : G = F := by
  rw [h.more, h.F_eq]; simp [putIn]
theorem Put.G_len (h : Put ms c xs e true F G) : G.length = F.length + 1 := by
  rw [h.G_true, h.F_eq]; simp; omega
theorem Put.low (h : Put ms c xs e true F G) (k : Nat) (hk : k < cnt xs c) : G[k]? = F[k]? := by
  rw [h.G_true, h.F_eq, List.getElem?_append_left hk, List.getElem?_append_left hk]
theorem Put.mid (h : Put ms c xs e true F G) : G[cnt xs c]? = some (e, true) := by
  rw [h.G_true]; unfold cnt; simp
theorem Put.high (h : Put ms c xs e true F G) (k : Nat) (hk : cnt xs c ≤ k) : G[k + 1]? = F[k]? := by
  unfold cnt at hk
  rw [h.G_true, h.F_eq, List.getElem?_append_right (by omega), List.getElem?_append_right hk, show k + 1 - ((xs.take c).filter (·.2)).length = (k - ((xs.take c).filter (·.2)).length) + 1 by omega]
  simp
theorem Put.cntF (h : Put ms c xs e has F G) : cnt xs ms.length = F.length := by rw [← h.len, cnt_all, h.full]
theorem Put.next (h : Put ms c xs e has F G) (k : Nat) (hk : k < ms.length) : cnt xs (k + 1) = cnt xs k + (if ms[k].2 then 1 else 0) := by
  have hx : k < xs.length := by rw [h.len]; exact hk
  rw [cnt_succ xs k hx, h.flag k hk hx]
theorem Put.F_le (h : Put ms c xs e has F G) : F.length ≤ ms.length := by rw [← h.len, h.full]; exact List.length_filter_le _ _
theorem Put.c_le (h : Put ms c xs e has F G) : cnt xs c ≤ F.length := by rw [h.F_eq]; simp [cnt]
end
theorem put_of {w : World} {g : Nat} {ms : List (ByteArray × Bool)} (c e : Nat) (has : Bool) (h : ∃ ps, Pts w g ps ms) : ∃ xs F G, Put ms c xs e has F G ∧ Meths w g 0 xs := by
  obtain ⟨ps, h⟩ := h
  exact ⟨xsOf ps ms, _, _, ⟨xsOf_length h.1, fun k hk hx => by rw [xsOf_get h.1 k hk], rfl, rfl⟩, meths_of h⟩
theorem take_map_succ (xs : List (Nat × Bool)) (k : Nat) (hk : k < xs.length) : (xs.take k).map encM ++ [encM xs[k]] = (xs.take (k + 1)).map encM := by
  rw [← List.take_append_getElem hk, List.map_append]; rfl
theorem mid_map_succ (xs : List (Nat × Bool)) (x : Nat × Bool) (c j : Nat) (hk : c + j < xs.length) : (xs.take c ++ x :: (xs.drop c).take j).map encM ++ [encM xs[c + j]] = (xs.take c ++ x :: (xs.drop c).take (j + 1)).map encM := by
  have hj : j < (xs.drop c).length := by simp; omega
  have : (xs.drop c).take (j + 1) = (xs.drop c).take j ++ [xs[c + j]] := by rw [← List.take_append_getElem hj]; simp
  rw [this]; simp
theorem mid_map_at (xs : List (Nat × Bool)) (x : Nat × Bool) (c k : Nat) (hc : c ≤ k) (hk : k < xs.length) : (xs.take c ++ x :: (xs.drop c).take (k - c)).map encM ++ [encM xs[k]] = (xs.take c ++ x :: (xs.drop c).take (k + 1 - c)).map encM := by
  obtain ⟨j, rfl⟩ := Nat.le.dest hc
  have := mid_map_succ xs x c j hk
  rw [show c + j - c = j by omega, show c + j + 1 - c = j + 1 by omega]; exact this
/-- The row that has been appended to, read as methods. -/
theorem meths_put {w : World} {G n cap : Nat} {ys : List (Nat × Bool)} (hr : w.ownsRow G 27 1 (.slice (some ⟨G, 0, none⟩) n cap) n (ys.map encM)) (hm : ∀ x ∈ ys, MethAt w x.1 x.2 ∧ x.1 < w.heap.size) : Meths w G 0 ys := by
  have hlen : ys.length = n := by have := hr.1; simpa using this
  rcases hr.2 with ⟨h, _⟩ | ⟨g, cap', cur, h, _, hg, _, _, hcs, htake⟩
  · simp at h
  · simp only [Value.slice.injEq, Option.some.injEq, Addr.mk.injEq, and_true, true_and] at h
    obtain ⟨rfl, rfl⟩ := h
    refine ⟨fun j hj => ?_, hm, (Array.getElem?_eq_some_iff.1 hg).1⟩
    have e : (cur.toList.take (n * 1))[j]? = (ys.map encM)[j]? := by rw [htake]
    rw [List.getElem?_take_of_lt (by omega)] at e
    have e2 : cur[j]? = some (encM ys[j]) := by simpa [hj] using e
    simp [World.cell?, hg, e2]

set_option maxRecDepth 100000 in
set_option maxHeartbeats 800000 in
theorem law4_in (a : Option Addr) (ms : List (ByteArray × Bool)) (cap c n : Nat) (name : ByteArray) (has : Bool) (w : World) (hn : ms.length = n) (hin : MsIn w a ms) (hl : ms.length ≤ maxLen) (hs : ∀ m ∈ ms, m.1.size ≤ maxLen) (hnm : name.size ≤ maxLen) (hle : n ≤ 1048576) (hc : c ≤ n) (hnm2 : name.size ≤ 131072) :
    Calls Try.prog 4 #[.slice a n cap, .int .i64 c, .string name, .bool has] w fun e w' => Good w e w' := by
  have hg9 := hide (bytes9_any a ms cap c name has w hin hl hs hnm)
  have hg6 := hide (fits_any a ms cap 917504 w hin hl hs (by omega) (by omega))
  have hg7 := hide (build_any a ms cap w hin (by omega))
  rw [hn] at hg9 hg6 hg7
  obtain ⟨i0, hi, hz0, hz1, hz2⟩ := info_parts info27
  go_enter Try.func4, Try.ntmps4
  go_wp2_with (first
    | (go_at_call 9; refine hg9.out.mono ?_; rintro e w' ⟨⟨bb, rfl, hbb⟩, hw⟩; obtain rfl := hw.symm)
    | (go_at_call 6; refine hg6.out.mono ?_; rintro e w' ⟨⟨bb2, rfl⟩, hw⟩; obtain rfl := hw.symm)
    | (go_at_call 7; refine hg7.out.mono ?_; rintro e w1 ⟨rfl, hpts, hl1⟩; obtain ⟨xs, F, G, HP, hm1⟩ := put_of c w1.heap.size has hpts; replace hpts := True; replace HP := hide HP; replace hm1 := hide hm1)
    | (go_at_call 10; refine (method_any name has w1).mono ?_; rintro e w2 ⟨rfl, hme, hl2⟩; have hm2 := hide (hm1.out.below hl2); replace hme := hide hme; have hl12 : Below w.heap.size w w2 := hl1.trans (hl2.mono hl1.size))
    | (at_make; refine wpList_make_own _ rfl _ _ 24 rfl w2.heap.size 27 i0 _ 1 Try.underlying24 hi hz0 hz1 .i64 .i64 ((n : Int) + 1) (n + 1) rfl rfl (by omega) (by rw [hz2]; omega) (by unfold maxLen; omega) (Nat.le_refl _) ?_; intro w3 hown hgrow))
  · go_ret
    exact ⟨rfl, Below.refl _ _⟩
  · go_ret
    exact ⟨rfl, Below.refl _ _⟩
  · clear hg9 hg6 hg7
    have hl3 : Below w2.heap.size w2 w3 := (Below.refl _ _).grown hgrow (Nat.le_refl _) (fun k hk => by cases hk)
    have hxl : xs.length = n := HP.out.len.trans hn
    clear hgrow hm1
    replace hown := hide hown
    have hgl : w.heap.size < w2.heap.size := hm2.out.2.2
    go_loopw [11, 12] (fun v i wr => ∃ k : Nat, k ≤ c ∧ i = .int .i64 k ∧ v = .slice (some ⟨w2.heap.size, 0, none⟩) k (n + 1) ∧ wr.ownsRow w2.heap.size 27 1 (.slice (some ⟨w2.heap.size, 0, none⟩) k (n + 1)) k ((xs.take k).map encM) ∧ Below w2.heap.size w2 wr) (fun _ i _ => c - (intOf i).toNat)
    case atStart => exact ⟨0, Nat.zero_le _, rfl, rfl, hown.out, hl3⟩
    case round =>
      clear hown hl3
      obtain ⟨k, hk, rfl, rfl, hrow, hbl⟩ := hrel
      by_cases hlt : k < c
      · have hkx : k < xs.length := by omega
        have hcx : wr.cell? ⟨w.heap.size, k, none⟩ = some (.pointer (some ⟨xs[k].1, 0, none⟩)) := by
          have := (hbl.cell (p := ⟨w.heap.size, 0 + k, none⟩) hgl).trans (hm2.out.1 k hkx)
          rw [Nat.zero_add] at this; exact this
        have hkn : k < n := by omega
        have HT := hide (take_map_succ xs k hkx)
        go_wp2_with (at_builtin; refine wpList_append_own_spare _ rfl _ _ 24 rfl w2.heap.size 27 i0 1 Try.underlying24 hi hz1 w2.heap.size k (n + 1) _ rfl (hrow.alloc _) ⟨wr.heap.size, 0, none⟩ 1 1 [encM xs[k]] rfl rfl (cell_one_new _ _ _) (by simp [Value.oneCell', encM, ptr]) (by omega) ?_; intro w5 hown5 hgrow5; have hb5 : Below w2.heap.size w2 w5 := (hbl.alloc hbl.size _).grown hgrow5 (by have := hbl.size; simp; omega) (fun j e => by cases e; exact Nat.le_refl _); rw [HT.out] at hown5; clear hgrow5)
        go_roundw
        case rel => exact ⟨k + 1, by omega, by simp, by simp, hown5, hb5⟩
        case measure => simp [intOf]; omega
      · obtain rfl : c = k := by omega
        have hcl : ((xs.take c).map encM).length = c := by simp; omega
        go_wp2_with (at_builtin; refine wpList_append_own_spare _ rfl _ _ 24 rfl w2.heap.size 27 i0 1 Try.underlying24 hi hz1 w2.heap.size c (n + 1) _ rfl (hrow.alloc _) ⟨wr.heap.size, 0, none⟩ 1 1 [encM (w1.heap.size, has)] rfl rfl (cell_one_new _ _ _) (by simp [Value.oneCell', encM, ptr]) (by omega) ?_; intro w5 hown5 hgrow5; have hb5 : Below w2.heap.size w2 w5 := (hbl.alloc hbl.size _).grown hgrow5 (by have := hbl.size; simp; omega) (fun j e => by cases e; exact Nat.le_refl _); clear hgrow5)
        have hown6 : Hid (w5.ownsRow w2.heap.size 27 1 (.slice (some ⟨w2.heap.size, 0, none⟩) (c + 1) (n + 1)) (c + 1) ((xs.take c ++ (w1.heap.size, has) :: (xs.drop c).take (c - c)).map encM)) := by
          unfold Hid; simpa using hown5
        clear hown5 hrow hbl hlt hk hcl
        go_loopw [11, 13] (fun v i wr => ∃ k : Nat, c ≤ k ∧ k ≤ n ∧ i = .int .i64 k ∧ v = .slice (some ⟨w2.heap.size, 0, none⟩) (k + 1) (n + 1) ∧ wr.ownsRow w2.heap.size 27 1 (.slice (some ⟨w2.heap.size, 0, none⟩) (k + 1) (n + 1)) (k + 1) ((xs.take c ++ (w1.heap.size, has) :: (xs.drop c).take (k - c)).map encM) ∧ Below w2.heap.size w2 wr) (fun _ i _ => n - (intOf i).toNat)
        case atStart => exact ⟨c, Nat.le_refl _, hc, rfl, rfl, hown6.out, hb5⟩
        case round =>
          clear hown6 hb5
          rename_i wr2
          obtain ⟨k, hck, hk, rfl, rfl, hrow, hbl⟩ := hrel
          by_cases hlt : k < n
          · have hkx : k < xs.length := by omega
            have hcx : wr.cell? ⟨w.heap.size, k, none⟩ = some (.pointer (some ⟨xs[k].1, 0, none⟩)) := by
              have := (hbl.cell (p := ⟨w.heap.size, 0 + k, none⟩) hgl).trans (hm2.out.1 k hkx)
              rw [Nat.zero_add] at this; exact this
            have HT := hide (mid_map_at xs (w1.heap.size, has) c k hck hkx)
            go_wp2_with (at_builtin; refine wpList_append_own_spare _ rfl _ _ 24 rfl w2.heap.size 27 i0 1 Try.underlying24 hi hz1 w2.heap.size (k + 1) (n + 1) _ rfl (hrow.alloc _) ⟨wr.heap.size, 0, none⟩ 1 1 [encM xs[k]] rfl rfl (cell_one_new _ _ _) (by simp [Value.oneCell', encM, ptr]) (by omega) ?_; intro w5 hown5 hgrow5; have hb5 : Below w2.heap.size w2 w5 := (hbl.alloc hbl.size _).grown hgrow5 (by have := hbl.size; simp; omega) (fun j e => by cases e; exact Nat.le_refl _); rw [HT.out] at hown5; clear hgrow5)
            go_roundw
            case rel => exact ⟨k + 1, by omega, by omega, by simp, by simp, hown5, hb5⟩
            case measure => simp [intOf]; omega
          · obtain rfl : n = k := by omega
            have hput : Hid (Meths wr w2.heap.size 0 (putIn xs c (w1.heap.size, has))) := by
              have hdt : (xs.drop c).take (n - c) = xs.drop c := List.take_of_length_le (by simp; omega)
              rw [hdt] at hrow
              refine meths_put hrow fun x hx => ?_
              rcases List.mem_append.1 hx with h | h
              · have := hm2.out.2.1 x (List.mem_of_mem_take h)
                exact ⟨this.1.below hbl this.2, Nat.lt_of_lt_of_le this.2 hbl.size⟩
              · rcases List.mem_cons.1 h with rfl | h
                · exact ⟨hme.out.below hbl hme.out.lt, Nat.lt_of_lt_of_le hme.out.lt hbl.size⟩
                · have := hm2.out.2.1 x (List.mem_of_mem_drop h)
                  exact ⟨this.1.below hbl this.2, Nat.lt_of_lt_of_le this.2 hbl.size⟩
            have hm3 := hide (hm2.out.below hbl)
            have hpl : Hid ((putIn xs c (w1.heap.size, has)).length = n + 1) := by unfold Hid; simp [putIn]; omega
            have hn1 : n + 1 ≤ 1048577 := by omega
            have hl13 : Below w.heap.size w wr := hl12.trans (hbl.mono hl12.size)
            clear hrow hm2 hlt hk hck
            go_wp2_with (fail)
            have hq := zz_at (n := n) w.heap.size 0 n xs F wr hxl HP.out.full hm3.out (Nat.le_trans hle (by decide))
            refine hq.mono ?_
            clear hq
            rintro e w4 ⟨a14, c14, rfl, hp14, hl4⟩
            have hput4 := hide (hput.out.below hl4)
            clear hput hm3
            go_wp2_with (fail)
            have hq := zz_at (n := n + 1) w2.heap.size 0 (n + 1) (putIn xs c (w1.heap.size, has)) G w4 hpl HP.out.more hput4.out (Nat.le_trans hn1 (by decide))
            refine hq.mono ?_
            clear hq
            rintro e w5 ⟨a15, c15, rfl, hp15, hl5⟩
            have p14 := hide (hp14.out.below hl5)
            have hl14 : Below w.heap.size w w4 := hl13.trans (hl4.mono hl13.size)
            have hl15 : Below w.heap.size w w5 := hl14.trans (hl5.mono hl14.size)
            have hin5 := hide (hin.below hl15)
            have hFn : F.length ≤ n := by rw [← hn]; exact HP.out.F_le
            clear hput4 hp14 hl13 hl14 hl4 hl5 hbl hl12 hl1 hl2 hme hpl
            go_wp2_with (fail)
            go_loopw [16, 17, 18] (fun r b i wr => ∃ k : Nat, k ≤ n ∧ i = .int .i64 k ∧ r = .int .i64 (cnt xs k) ∧ b = .int .i64 (cnt xs (min k c)) ∧ Below w5.heap.size w5 wr) (fun _ _ i _ => n - (intOf i).toNat)
            case atStart => exact ⟨0, Nat.zero_le _, rfl, by simp [cnt], by simp [cnt], Below.refl _ _⟩
            case round =>
              rename_i wr3
              obtain ⟨k, hk, rfl, rfl, rfl, hbl⟩ := hrel
              by_cases hlt : k < n
              · have hkm : k < ms.length := by omega
                obtain ⟨bb3, o3, rfl, _, hcb⟩ := (hin5.out.below hbl) k hkm
                have hnx := HP.out.next k hkm
                have hqk := cnt_le xs k
                have hpk : cnt xs (min k c) ≤ k := Nat.le_trans (cnt_le xs _) (Nat.min_le_left _ _)
                have hmn : cnt xs (min (k + 1) c) = cnt xs (min k c) + (if k < c then (if (ms[k]).2 then 1 else 0) else 0) := by
                  by_cases hkc : k < c
                  · rw [Nat.min_eq_left hkc, Nat.min_eq_left (Nat.le_of_lt hkc), if_pos hkc]; exact hnx
                  · rw [Nat.min_eq_right (by omega), Nat.min_eq_right (by omega), if_neg hkc]; rfl
                replace hnx := hide hnx
                replace hmn := hide hmn
                obtain ⟨q, hq⟩ : ∃ q, cnt xs k = q := ⟨_, rfl⟩
                obtain ⟨p, hp⟩ : ∃ p, cnt xs (min k c) = p := ⟨_, rfl⟩
                rw [hq] at hnx hqk ⊢
                rw [hp] at hmn hpk ⊢
                clear hq hp
                cases hb : (ms[k]).2 with
                | true =>
                  rw [hb] at hcb hnx hmn
                  by_cases hkc : k < c
                  · go_wp2_with (fail)
                    go_roundw
                    case rel => exact ⟨k + 1, by omega, by simp, by rw [hnx.out]; simp, by rw [hmn.out, if_pos hkc]; simp, hbl⟩
                    case measure => simp [intOf]; omega
                  · go_wp2_with (fail)
                    go_roundw
                    case rel => exact ⟨k + 1, by omega, by simp, by rw [hnx.out]; simp, by rw [hmn.out, if_neg hkc]; simp, hbl⟩
                    case measure => simp [intOf]; omega
                | false =>
                  rw [hb] at hcb hnx hmn
                  go_wp2_with (fail)
                  go_roundw
                  case rel => exact ⟨k + 1, by omega, by simp, by rw [hnx.out]; simp, by rw [hmn.out]; simp, hbl⟩
                  case measure => simp [intOf]; omega
              · obtain rfl : n = k := by omega
                have hc1 : cnt xs n = F.length := by rw [← hn]; exact HP.out.cntF
                have hmF := HP.out.c_le
                rw [hc1, Nat.min_eq_right hc]
                obtain ⟨m, hm⟩ : ∃ m, cnt xs c = m := ⟨_, rfl⟩
                rw [hm] at hmF ⊢
                replace hm := hide hm
                clear hc1 hlt hk hin5
                cases has with
                | false =>
                  obtain rfl : G = F := HP.out.G_false
                  go_wp2_with (fail)
                  refine (same_any a15 a14 G G.length c15 c14 wr rfl (hp15.out.below hbl) (p14.out.below hbl) (by omega)).mono ?_
                  rintro e w6 ⟨rfl, hl6⟩
                  go_wp2_with (fail)
                  go_ret
                  have h16 := hl15.trans (hbl.mono hl15.size)
                  exact ⟨rfl, h16.trans (hl6.mono h16.size)⟩
                | true =>
                  have hGl : G.length = F.length + 1 := HP.out.G_len
                  rw [hGl]
                  clear hGl
                  have hmid := HP.out.mid
                  rw [hm.out] at hmid
                  have HLOW : Hid (∀ k, k < m → G[k]? = F[k]?) := by unfold Hid; rw [← hm.out]; exact HP.out.low
                  have HHIGH : Hid (∀ k, m ≤ k → G[k + 1]? = F[k]?) := by unfold Hid; rw [← hm.out]; exact HP.out.high
                  obtain ⟨g15, o15, rfl, h15⟩ := (hp15.out.below hbl).get hmid
                  clear hmid
                  have hne := neq_ptr
                  have hmlt : m < F.length + 1 := by omega
                  go_wp2_with (fail)
                  clear h15
                  go_loopw [19] (fun i wr => ∃ k : Nat, k ≤ m ∧ i = .int .i64 k ∧ Below w5.heap.size w5 wr) (fun i _ => m - (intOf i).toNat)
                  case atStart => exact ⟨0, Nat.zero_le _, rfl, hbl⟩
                  case round =>
                    clear hbl
                    rename_i wr4
                    obtain ⟨k, hk, rfl, hbl⟩ := hrel
                    by_cases hlt : k < m
                    · have hkF : k < F.length := by omega
                      have hkG : k < F.length + 1 := by omega
                      obtain ⟨x, hx⟩ : ∃ x, F[k]? = some x := ⟨_, List.getElem?_eq_getElem hkF⟩
                      obtain ⟨g14, o14, rfl, h14⟩ := (p14.out.below hbl).get hx
                      obtain ⟨g', o', e', h15⟩ := (hp15.out.below hbl).get ((HLOW.out k hlt).trans hx)
                      simp only [Option.some.injEq, Addr.mk.injEq, and_true] at e'
                      obtain ⟨rfl, rfl⟩ := e'
                      generalize (⟨x.1, 0, none⟩ : Addr) = ad at h14 h15
                      clear hx
                      go_wp2_with (fail)
                      refine wp_region_quiet_lit (by kernel_rfl) (by kernel_rfl) ?_
                      repeat (first
                        | (refine wq_v 131 (.pointer (some ⟨g15, o15 + k, none⟩)) rfl (fun w' _ => exec_index1 es24 rfl rfl hkG w') ?_; simp only [Act.put, List.setIfInBounds_toArray, List.set_cons_succ, List.set_cons_zero])
                        | (refine wq_v 132 (.pointer (some ad)) rfl (fun w' hw' => exec_load1 one27 rfl (cellN h15 w' hw')) ?_; simp only [Act.put, List.setIfInBounds_toArray, List.set_cons_succ, List.set_cons_zero])
                        | (refine wq_v 135 (.pointer (some ⟨g14, o14 + k, none⟩)) rfl (fun w' _ => exec_index1 es24 rfl rfl hkF w') ?_; simp only [Act.put, List.setIfInBounds_toArray, List.set_cons_succ, List.set_cons_zero])
                        | (refine wq_v 136 (.pointer (some ad)) rfl (fun w' hw' => exec_load1 one27 rfl (cellN h14 w' hw')) ?_; simp only [Act.put, List.setIfInBounds_toArray, List.set_cons_succ, List.set_cons_zero])
                        | (refine wq_v 137 (.bool false) rfl (fun w' _ => exec_neqp rfl rfl w') ?_; simp only [Act.put, List.setIfInBounds_toArray, List.set_cons_succ, List.set_cons_zero])
                        | quiet_step (fail))
                      refine wpQuiet_nil ?_
                      rintro _ ⟨nq, rfl⟩
                      go_wp2_with (fail)
                      go_roundw
                      case rel => exact ⟨k + 1, by omega, by simp, hbl.trans (drewN_below _ _ _)⟩
                      case measure => simp [intOf]; omega
                    · go_wp2_with (fail)
                      clear hlt hk
                      go_loopw [20] (fun i wr => ∃ k : Nat, m ≤ k ∧ k ≤ F.length ∧ i = .int .i64 k ∧ Below w5.heap.size w5 wr) (fun i _ => F.length - (intOf i).toNat)
                      case atStart => exact ⟨m, Nat.le_refl _, hmF, rfl, hbl⟩
                      case round =>
                        clear hbl
                        rename_i wr5
                        obtain ⟨k, hmk, hk, rfl, hbl⟩ := hrel
                        by_cases hlt : k < F.length
                        · have hkG : k + 1 < F.length + 1 := by omega
                          obtain ⟨x, hx⟩ : ∃ x, F[k]? = some x := ⟨_, List.getElem?_eq_getElem hlt⟩
                          obtain ⟨g14, o14, rfl, h14⟩ := (p14.out.below hbl).get hx
                          obtain ⟨g', o', e', h15⟩ := (hp15.out.below hbl).get ((HHIGH.out k hmk).trans hx)
                          simp only [Option.some.injEq, Addr.mk.injEq, and_true] at e'
                          obtain ⟨rfl, rfl⟩ := e'
                          generalize (⟨x.1, 0, none⟩ : Addr) = ad at h14 h15
                          clear hx
                          go_wp2_with (fail)
                          refine wp_region_quiet_lit (by kernel_rfl) (by kernel_rfl) ?_
                          repeat (first
                            | (refine wq_v 146 (.int .i64 ((k + 1 : Nat) : Int)) rfl (fun w' _ => exec_add (q := 1) rfl rfl (by omega) w') ?_; simp only [Act.put, List.setIfInBounds_toArray, List.set_cons_succ, List.set_cons_zero])
                            | (refine wq_v 147 (.pointer (some ⟨g15, o15 + (k + 1), none⟩)) rfl (fun w' _ => exec_index1 es24 rfl rfl hkG w') ?_; simp only [Act.put, List.setIfInBounds_toArray, List.set_cons_succ, List.set_cons_zero])
                            | (refine wq_v 148 (.pointer (some ad)) rfl (fun w' hw' => exec_load1 one27 rfl (cellN h15 w' hw')) ?_; simp only [Act.put, List.setIfInBounds_toArray, List.set_cons_succ, List.set_cons_zero])
                            | (refine wq_v 151 (.pointer (some ⟨g14, o14 + k, none⟩)) rfl (fun w' _ => exec_index1 es24 rfl rfl hlt w') ?_; simp only [Act.put, List.setIfInBounds_toArray, List.set_cons_succ, List.set_cons_zero])
                            | (refine wq_v 152 (.pointer (some ad)) rfl (fun w' hw' => exec_load1 one27 rfl (cellN h14 w' hw')) ?_; simp only [Act.put, List.setIfInBounds_toArray, List.set_cons_succ, List.set_cons_zero])
                            | (refine wq_v 153 (.bool false) rfl (fun w' _ => exec_neqp rfl rfl w') ?_; simp only [Act.put, List.setIfInBounds_toArray, List.set_cons_succ, List.set_cons_zero])
                            | quiet_step (fail))
                          refine wpQuiet_nil ?_
                          rintro _ ⟨nq, rfl⟩
                          go_wp2_with (fail)
                          go_roundw
                          case rel => exact ⟨k + 1, by omega, by omega, by simp, hbl.trans (drewN_below _ _ _)⟩
                          case measure => simp [intOf]; omega
                        · go_wp2_with (fail)
                          go_ret
                          exact ⟨rfl, hl15.trans (hbl.mono hl15.size)⟩

set_option maxRecDepth 100000 in
set_option maxHeartbeats 1000000 in
theorem law4 (a : Option Addr) (ms : List (ByteArray × Bool)) (cap : Nat) (i : Int) (name : ByteArray) (has : Bool) (w : World) (hin : MsIn w a ms) (hl : ms.length ≤ maxLen) (hs : ∀ m ∈ ms, m.1.size ≤ maxLen) (hnm : name.size ≤ maxLen) :
    Calls Try.prog 4 #[.slice a ms.length cap, .int .i64 i, .string name, .bool has] w fun e w' => Good w e w' := by
  have hl' := hl
  have hnm' := hnm
  unfold maxLen at hl' hnm'
  by_cases hgo : ms.length ≤ 1048576 ∧ 0 ≤ i ∧ i ≤ ms.length ∧ name.size ≤ 131072
  · obtain ⟨hle, hi0, hi1, hn2⟩ := hgo
    obtain ⟨c, rfl⟩ := Int.eq_ofNat_of_zero_le hi0
    exact law4_in a ms cap c ms.length name has w rfl hin hl hs hnm hle (by omega) hn2
  · have hno : 1048576 < ms.length ∨ (ms.length ≤ 1048576 ∧ 131072 < name.size) ∨ (ms.length ≤ 1048576 ∧ name.size ≤ 131072 ∧ i < 0) ∨ (ms.length ≤ 1048576 ∧ name.size ≤ 131072 ∧ 0 ≤ i ∧ (ms.length : Int) < i) := by omega
    clear hgo
    have hg9 := hide (bytes9_any a ms cap i name has w hin hl hs hnm)
    have hg6 := hide (fits_any a ms cap 917504 w hin hl hs (by omega) (by omega))
    clear hin hs
    rcases hno with h1 | ⟨h1, h2⟩ | ⟨h1, h2, h3⟩ | ⟨h1, h2, h3, h4⟩
    · go_enter Try.func4, Try.ntmps4
      go_wp2_with (go_at_call 9; refine hg9.out.mono ?_; rintro e w' ⟨⟨bb, rfl, hbb⟩, hw⟩; obtain rfl := hw.symm; obtain rfl : bb = false := (by cases bb; rfl; exact absurd (hbb rfl) (by omega)))
      go_ret
      exact ⟨rfl, Below.refl _ _⟩
    all_goals
      go_enter Try.func4, Try.ntmps4
      go_wp2_with (first
        | (go_at_call 9; refine hg9.out.mono ?_; rintro e w' ⟨⟨bb, rfl, hbb⟩, hw⟩; obtain rfl := hw.symm)
        | (go_at_call 6; refine hg6.out.mono ?_; rintro e w' ⟨⟨bb2, rfl⟩, hw⟩; obtain rfl := hw.symm))
      all_goals
        go_ret
        exact ⟨rfl, Below.refl _ _⟩
end Go.Proofs.Qxb6612636a
