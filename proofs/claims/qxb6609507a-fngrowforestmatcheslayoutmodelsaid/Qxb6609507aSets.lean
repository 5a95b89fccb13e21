import Derived.Test.Qxb6609507aTopo
import Derived.Laws.Bits64
namespace Go.Proofs.Qxb6609507a
set_option linter.unusedVariables false
set_option linter.unusedSimpArgs false
open Go.ChangeShapes Go.WideShapes Go.ChangeAt Go.RowKit

/-! ### Cells of a block that is known whole -/
theorem Blk.frozen {w : World} {b : Nat} {cs : List Value} {e : TypeId} (h : Blk w b cs e) (o : Nat) : w.frozen? ⟨b, o, none⟩ = false := by
  unfold Blk at h; simp [World.frozen?, h]
theorem Blk.setCell {w : World} {b : Nat} {cs : List Value} {e : TypeId} (h : Blk w b cs e) (o : Nat) (v : Value) : Blk (w.setCell ⟨b, o, none⟩ v) b (cs.set o v) e := by
  have hlt := h.lt
  unfold Blk at h ⊢
  show (w.heap.modify b _)[b]? = _
  rw [Array.getElem?_eq_getElem (by rw [Array.size_modify]; exact hlt), Array.getElem_modify_self]
  rw [Array.getElem?_eq_getElem hlt] at h
  rw [Option.some.inj h]
  simp
theorem Blk.setOther {w : World} {b b' : Nat} {cs : List Value} {e : TypeId} (h : Blk w b cs e) (hne : b ≠ b') (o : Nat) (v : Value) : Blk (w.setCell ⟨b', o, none⟩ v) b cs e :=
  (Below.heap_setCell w ⟨b', o, none⟩ v b hne).trans h

/-- w' is w but for the blocks of bs, and new ones. -/
structure Upd (bs : List Nat) (w w' : World) : Prop where
  size : w.heap.size ≤ w'.heap.size
  same : ∀ b, b < w.heap.size → b ∉ bs → w'.heap[b]? = w.heap[b]?
  below : ∀ B, (∀ b ∈ bs, B ≤ b) → B ≤ w.heap.size → Below B w w'
theorem Upd.refl (bs : List Nat) (w : World) : Upd bs w w := ⟨Nat.le_refl _, fun _ _ _ => rfl, fun B _ _ => Below.refl B w⟩
theorem Upd.trans {bs : List Nat} {u v w : World} (h : Upd bs u v) (k : Upd bs v w) : Upd bs u w :=
  ⟨Nat.le_trans h.size k.size, fun b hb hn => (k.same b (Nat.lt_of_lt_of_le hb h.size) hn).trans (h.same b hb hn), fun B hB hs => (h.below B hB hs).trans (k.below B hB (Nat.le_trans hs h.size))⟩
theorem Upd.mono {bs bs' : List Nat} {u v : World} (h : Upd bs u v) (hb : ∀ b ∈ bs, b ∈ bs') : Upd bs' u v :=
  ⟨h.size, fun b hl hn => h.same b hl (fun hx => hn (hb b hx)), fun B hB hs => h.below B (fun b hx => hB b (hb b hx)) hs⟩
theorem Upd.setCell {bs : List Nat} (w : World) (b o : Nat) (v : Value) (hb : b ∈ bs) : Upd bs w (w.setCell ⟨b, o, none⟩ v) :=
  ⟨(Below.setCell (Below.refl 0 w) (p := ⟨b, o, none⟩) (Nat.zero_le _) v).size, fun c _ hn => Below.heap_setCell w ⟨b, o, none⟩ v c (fun h => hn (h ▸ hb)), fun B hB _ => (Below.refl B w).setCell (p := ⟨b, o, none⟩) (hB b hb) v⟩
theorem Upd.alloc (bs : List Nat) (w : World) (o : Obj) : Upd bs w (w.alloc o) :=
  ⟨by simp, fun b hb _ => Below.heap_alloc w o b hb, fun B _ hs => (Below.refl B w).alloc hs o⟩
theorem Upd.drew (bs : List Nat) (w : World) : Upd bs w w.drew := ⟨Nat.le_refl _, fun _ _ _ => rfl, fun B _ _ => (Below.refl B w).drew⟩
theorem Blk.upd {bs : List Nat} {w w' : World} {b : Nat} {cs : List Value} {e : TypeId} (h : Blk w b cs e) (k : Upd bs w w') (hn : b ∉ bs) : Blk w' b cs e := (k.same b h.lt hn).trans h

/-! ### An index set: its words, row by row -/
def u64v (x : Nat) : Value := .int .u64 x
def addRows : List (List Nat) → Nat → List (List Nat)
  | [], _ => []
  | ws :: rest, i => ws.set (i / 64) (ws.getD (i / 64) 0 ||| 2 ^ (i % 64)) :: (if ws.getD (i / 64) 0 ≠ 0 then rest else addRows rest (i / 64))
def InRows : List (List Nat) → Nat → Prop
  | [], _ => True
  | ws :: rest, i => i / 64 < ws.length ∧ InRows rest (i / 64)
theorem addRows_length (rs : List (List Nat)) (i : Nat) : (addRows rs i).length = rs.length := by
  induction rs generalizing i with
  | nil => rfl
  | cons ws rest ih => simp only [addRows, List.length_cons]; split <;> simp [ih]

theorem bits_or_u64 (a b : Nat) (ha : a < 18446744073709551616) (hb : b < 18446744073709551616) : bits .or .u64 (a : Int) (b : Int) = ((a ||| b : Nat) : Int) := by
  have hx : a ||| b < 2 ^ 64 := Nat.or_lt_two_pow (by omega) (by omega)
  have h1 : (BitVec.ofInt 64 (a : Int)).toNat = a := by
    rw [BitVec.ofInt_natCast, BitVec.toNat_ofNat]; exact Nat.mod_eq_of_lt (by omega)
  have h2 : (BitVec.ofInt 64 (b : Int)).toNat = b := by
    rw [BitVec.ofInt_natCast, BitVec.toNat_ofNat]; exact Nat.mod_eq_of_lt (by omega)
  show IntKind.u64.wrap ((BitVec.ofInt 64 (a : Int) ||| BitVec.ofInt 64 (b : Int)).toNat : Int) = _
  rw [BitVec.toNat_or, h1, h2, IntKind.wrap_u64]
  omega
theorem wrap_pow (m : Nat) (hm : m < 64) : IntKind.u64.wrap (2 ^ m) = ((2 ^ m : Nat) : Int) := by
  have h : (2 : Nat) ^ m < 2 ^ 64 := Nat.pow_lt_pow_right (by omega) hm
  have e : ((2 : Int) ^ m) = ((2 ^ m : Nat) : Int) := by simp
  rw [IntKind.wrap_u64, e]
  generalize (2 : Nat) ^ m = q at h
  omega
theorem or_word (x j : Nat) (hx : x < 2 ^ 64) : bits .or .u64 (x : Int) (IntKind.u64.wrap (2 ^ (j % 64))) = ((x ||| 2 ^ (j % 64) : Nat) : Int) := by
  have hm : j % 64 < 64 := Nat.mod_lt _ (by omega)
  have h : (2 : Nat) ^ (j % 64) < 2 ^ 64 := Nat.pow_lt_pow_right (by omega) hm
  rw [wrap_pow _ hm, bits_or_u64 _ _ (by omega) (by omega)]

/-- The rows of an index set in memory: the outer row at ob, the rows' blocks bs, the words rs. -/
structure RowsAt (w : World) (ob : Nat) (bs : List Nat) (rs : List (List Nat)) : Prop where
  len : bs.length = rs.length
  nd : bs.Nodup
  out : ob ∉ bs
  outer : ∀ k (h : k < rs.length) (h' : k < bs.length), w.cell? ⟨ob, k, none⟩ = some (.slice (some ⟨bs[k], 0, none⟩) rs[k].length rs[k].length)
  row : ∀ k (h : k < rs.length) (h' : k < bs.length), Blk w bs[k] (rs[k].map u64v) 55
  oblt : ob < w.heap.size
theorem RowsAt.upd {w w' : World} {ob : Nat} {bs : List Nat} {rs : List (List Nat)} {us : List Nat} (h : RowsAt w ob bs rs) (k : Upd us w w') (ho : ob ∉ us) (hb : ∀ b ∈ bs, b ∉ us) : RowsAt w' ob bs rs :=
  ⟨h.len, h.nd, h.out, fun j hj hj' => (World.cell?_of_block (k.same ob h.oblt ho)).trans (h.outer j hj hj'), fun j hj hj' => (h.row j hj hj').upd k (hb _ (List.getElem_mem hj')), Nat.lt_of_lt_of_le h.oblt k.size⟩

theorem RowsAt.setWord {w : World} {ob : Nat} {bs : List Nat} {A R : List (List Nat)} {ws : List Nat} (h : RowsAt w ob bs (A ++ ws :: R)) (hk : A.length < bs.length) (j x : Nat) :
    RowsAt (w.setCell ⟨bs[A.length], j, none⟩ (u64v x)) ob bs (A ++ ws.set j x :: R) := by
  have hpw := List.pairwise_iff_getElem.1 h.nd
  have hne : ∀ m (hm : m < bs.length), m ≠ A.length → bs[m] ≠ bs[A.length] := by
    intro m hm hmn
    rcases Nat.lt_or_gt_of_ne hmn with h1 | h1
    · exact hpw m A.length hm hk h1
    · exact (hpw A.length m hk hm h1).symm
  have hob : ob ≠ bs[A.length] := fun e => h.out (e ▸ List.getElem_mem hk)
  refine ⟨by simpa using h.len, h.nd, h.out, fun m hm hm' => ?_, fun m hm hm' => ?_, ?_⟩
  · rw [World.cell?_of_block (Below.heap_setCell w ⟨bs[A.length], j, none⟩ (u64v x) ob hob)]
    have hm2 : m < (A ++ ws :: R).length := by simpa using hm
    have := h.outer m hm2 hm'
    rw [this]
    by_cases hmA : m = A.length
    · subst hmA; simp
    · by_cases hlt : m < A.length
      · simp [List.getElem_append_left hlt]
      · obtain ⟨q, hq⟩ : ∃ q, m - A.length = q + 1 := ⟨m - A.length - 1, by omega⟩
        simp [List.getElem_append_right (Nat.le_of_not_lt hlt), hq]
  · have hm2 : m < (A ++ ws :: R).length := by simpa using hm
    have hrow := h.row m hm2 hm'
    by_cases hmA : m = A.length
    · subst hmA
      have e1 : (A ++ ws :: R)[A.length]'hm2 = ws := by simp
      have e2 : (A ++ ws.set j x :: R)[A.length]'hm = ws.set j x := by simp
      rw [e1] at hrow
      rw [e2, List.map_set]
      exact hrow.setCell j (u64v x)
    · have e3 : (A ++ ws.set j x :: R)[m]'hm = (A ++ ws :: R)[m]'hm2 := by
        by_cases hlt : m < A.length
        · simp [List.getElem_append_left hlt]
        · obtain ⟨q, hq⟩ : ∃ q, m - A.length = q + 1 := ⟨m - A.length - 1, by omega⟩
          simp [List.getElem_append_right (Nat.le_of_not_lt hlt), hq]
      rw [e3]
      exact hrow.setOther (hne m hm' hmA) j _
  · have := (Below.setCell (Below.refl 0 w) (p := ⟨bs[A.length], j, none⟩) (Nat.zero_le _) (u64v x)).size
    exact Nat.lt_of_lt_of_le h.oblt this

set_option maxHeartbeats 400000 in
theorem add_any (fb off n i : Nat) (cs : List Value) (e : TypeId) (ob cap : Nat) (bs : List Nat) (rs : List (List Nat)) (w : World)
    (h0 : Blk w fb cs e) (h1 : cs[off + 2]? = some (.int .i64 n)) (h2 : cs[off]? = some (.slice (some ⟨ob, 0, none⟩) rs.length cap)) (hn : n ≤ 1048576) (hi : i ≤ 1048576) (hl : rs.length ≤ 64)
    (hr : RowsAt w ob bs rs) (hfb : fb ∉ bs) (hfo : fb ≠ ob) (hin : InRows rs i) (hw : ∀ ws ∈ rs, ∀ x ∈ ws, x < 2 ^ 64) :
    Calls Try.prog 55 #[.pointer (some ⟨fb, off, none⟩), .int .i64 i] w fun e' w' => (∃ v, e' = .returned v) ∧ Blk w' fb (cs.set (off + 2) (.int .i64 (n + 1 : Nat))) e ∧ RowsAt w' ob bs (addRows rs i) ∧ Upd (fb :: bs) w w' := by
  have c1 : w.cell? ⟨fb, off + 2, none⟩ = some (.int .i64 n) := by rw [h0.cell]; exact h1
  have z1 := h0.frozen (off + 2)
  have c2 : (w.setCell ⟨fb, off + 2, none⟩ (.int .i64 ((n : Int) + 1))).cell? ⟨fb, off, none⟩ = some (.slice (some ⟨ob, 0, none⟩) rs.length cap) := by
    rw [(h0.setCell (off + 2) _).cell, List.getElem?_set_ne (by omega)]; exact h2
  have b1 := hide (h0.setCell (off + 2) (.int .i64 ((n : Int) + 1)))
  have u1 : Upd (fb :: bs) w (w.setCell ⟨fb, off + 2, none⟩ (.int .i64 ((n : Int) + 1))) := Upd.setCell w fb (off + 2) _ (by simp)
  have r1 : RowsAt (w.setCell ⟨fb, off + 2, none⟩ (.int .i64 ((n : Int) + 1))) ob bs rs := hr.upd (Upd.setCell (bs := [fb]) w fb (off + 2) _ (by simp)) (by simpa using hfo.symm) (fun b hb => by simp; rintro rfl; exact hfb hb)
  go_enter Try.func55, Try.ntmps55
  go_wp2
  go_loopw [1, 20] (fun iv kv wr => ∃ (j : Nat) (A R : List (List Nat)), j ≤ 1048576 ∧ kv = .int .i64 A.length ∧ iv = .int .i64 j ∧ A.length + R.length = rs.length ∧ InRows R j ∧ addRows rs i = A ++ addRows R j ∧ (∀ ws ∈ R, ∀ x ∈ ws, x < 2 ^ 64) ∧ RowsAt wr ob bs (A ++ R) ∧ Blk wr fb (cs.set (off + 2) (.int .i64 ((n : Int) + 1))) e ∧ Upd (fb :: bs) w wr) (fun _ kv _ => rs.length - (intOf kv).toNat)
  case atStart => exact ⟨i, [], rs, hi, rfl, rfl, by simp, hin, by simp, hw, r1, b1.out, u1⟩
  case round =>
    obtain ⟨j, A, R, hj, rfl, rfl, hlen, hinR, hadd, hwR, hrR, hb, hu⟩ := hrel
    clear r1 b1 u1 c2 c1 z1
    cases R with
    | nil =>
      have hA : rs.length = A.length := by simpa using hlen.symm
      go_wp2
      go_end0
      refine ⟨⟨_, rfl⟩, hb, ?_, hu⟩
      rw [hadd]; simpa [addRows] using hrR
    | cons ws R =>
      obtain ⟨hj2, hinR⟩ := hinR
      have hAl : A.length < rs.length := by simp at hlen; omega
      have hAb : A.length < bs.length := by have := hrR.len; simp at this; omega
      have co := hrR.outer A.length (by simp) hAb
      have cr := hrR.row A.length (by simp) hAb
      simp only [List.getElem_concat_length, List.getElem_append_right (Nat.le_refl _), Nat.sub_self, List.getElem_cons_zero] at co cr
      obtain ⟨x, hx⟩ : ∃ x, ws[j / 64]? = some x := ⟨_, List.getElem?_eq_getElem hj2⟩
      have hx64 : x < 2 ^ 64 := hwR ws (by simp) x (List.mem_of_getElem? hx)
      have cx : wr.cell? ⟨bs[A.length], j / 64, none⟩ = some (.int .u64 x) := by rw [cr.cell]; simp [hx, u64v]
      have zx := cr.frozen (j / 64)
      have hset := hide (hrR.setWord hAb (j / 64) (x ||| 2 ^ (j % 64)))
      have hfne : fb ≠ bs[A.length] := fun e => hfb (e ▸ List.getElem_mem hAb)
      have hbs := hide (hb.setOther hfne (j / 64) (u64v (x ||| 2 ^ (j % 64))))
      have hus := hide (hu.trans (Upd.setCell (bs := fb :: bs) wr bs[A.length] (j / 64) (u64v (x ||| 2 ^ (j % 64))) (List.mem_cons_of_mem _ (List.getElem_mem hAb))))
      have hor := or_word x j hx64
      have hgd : ws.getD (j / 64) 0 = x := by simp [List.getD, hx]
      by_cases hx0 : x = 0
      · have hd : ((x : Int) != 0) = false := by simp [hx0]
        have HX := hide hx0
        clear hx0
        go_wp2
        go_region
        obtain ⟨W2, hW2⟩ : ∃ W2, wr.setCell ⟨bs[A.length], j / 64, none⟩ (u64v (x ||| 2 ^ (j % 64))) = W2 := ⟨_, rfl⟩
        have hW2' := hW2
        unfold u64v at hW2'
        rw [hW2']
        rw [hW2] at hset hbs hus
        clear hW2 hW2'
        go_wp2
        go_roundw
        case rel =>
          refine ⟨j / 64, A ++ [ws.set (j / 64) (x ||| 2 ^ (j % 64))], R, by omega, by simp, by simp, by simp at hlen ⊢; omega, hinR, ?_, fun ws' h' => hwR ws' (List.mem_cons_of_mem _ h'), ?_, hbs.out.upd (Upd.drew [] _) (by simp), hus.out.trans (Upd.drew _ _)⟩
          · rw [hadd]; simp only [addRows, hgd]; simp [HX.out]
          · have := hset.out.upd (Upd.drew [] _) (by simp) (by simp)
            simpa using this
        case measure => simp [intOf]; omega
      · have hd : ((x : Int) != 0) = true := by simp; exact hx0
        go_wp2
        go_region
        obtain ⟨W2, hW2⟩ : ∃ W2, wr.setCell ⟨bs[A.length], j / 64, none⟩ (u64v (x ||| 2 ^ (j % 64))) = W2 := ⟨_, rfl⟩
        have hW2' := hW2
        unfold u64v at hW2'
        rw [hW2']
        rw [hW2] at hset hbs hus
        clear hW2 hW2'
        go_wp2
        refine bodyPost_ret (results_none rfl _ _ _) rfl ?_
        refine ⟨⟨_, rfl⟩, hbs.out.upd (Upd.drew [] _) (by simp), ?_, hus.out.trans (Upd.drew _ _)⟩
        rw [hadd]
        simp only [addRows, hgd]
        rw [if_pos hx0]
        exact hset.out.upd (Upd.drew [] _) (by simp) (by simp)
end Go.Proofs.Qxb6609507a
