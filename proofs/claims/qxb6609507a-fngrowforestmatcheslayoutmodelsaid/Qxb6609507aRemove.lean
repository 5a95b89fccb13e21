import Derived.Test.Qxb6609507aPlain
namespace Go.Proofs.Qxb6609507a
set_option linter.unusedVariables false
set_option linter.unusedSimpArgs false
open Go.ChangeShapes Go.WideShapes Go.ChangeAt Go.RowKit

/-- A word without one bit. -/
def clr (x m : Nat) : Nat := (BitVec.ofNat 64 x &&& ~~~ (BitVec.ofNat 64 (2 ^ m))).toNat
def remRows : List (List Nat) → Nat → List (List Nat)
  | [], _ => []
  | ws :: rest, i => ws.set (i / 64) (clr (ws.getD (i / 64) 0) (i % 64)) :: (if clr (ws.getD (i / 64) 0) (i % 64) ≠ 0 then rest else remRows rest (i / 64))
theorem andNot_word (x j : Nat) (hx : x < 2 ^ 64) : bits .andNot .u64 (x : Int) (IntKind.u64.wrap (2 ^ (j % 64))) = ((clr x (j % 64) : Nat) : Int) := by
  have hm : j % 64 < 64 := Nat.mod_lt _ (by omega)
  rw [wrap_pow _ hm]
  have hlt : clr x (j % 64) < 2 ^ 64 := (BitVec.ofNat 64 x &&& ~~~ (BitVec.ofNat 64 (2 ^ (j % 64)))).isLt
  show IntKind.u64.wrap ((BitVec.ofInt 64 (x : Int) &&& ~~~ BitVec.ofInt 64 ((2 ^ (j % 64) : Nat) : Int)).toNat : Int) = _
  rw [BitVec.ofInt_natCast, BitVec.ofInt_natCast, IntKind.wrap_u64]
  show ((clr x (j % 64) : Nat) : Int) % 18446744073709551616 = _
  omega

set_option maxHeartbeats 400000 in
theorem remove_any (fb off n i : Nat) (cs : List Value) (e : TypeId) (ob cap : Nat) (bs : List Nat) (rs : List (List Nat)) (w : World)
    (h0 : Blk w fb cs e) (h1 : cs[off + 2]? = some (.int .i64 n)) (h2 : cs[off]? = some (.slice (some ⟨ob, 0, none⟩) rs.length cap)) (hn : n ≤ 1048576) (hn1 : 1 ≤ n) (hi : i ≤ 1048576) (hl : rs.length ≤ 64)
    (hr : RowsAt w ob bs rs) (hfb : fb ∉ bs) (hfo : fb ≠ ob) (hin : InRows rs i) (hw : ∀ ws ∈ rs, ∀ x ∈ ws, x < 2 ^ 64) :
    Calls Try.prog 54 #[.pointer (some ⟨fb, off, none⟩), .int .i64 i] w fun e' w' => (∃ v, e' = .returned v) ∧ Blk w' fb (cs.set (off + 2) (.int .i64 ((n : Int) - 1))) e ∧ RowsAt w' ob bs (remRows rs i) ∧ Upd (fb :: bs) w w' := by
  have c1 : w.cell? ⟨fb, off + 2, none⟩ = some (.int .i64 n) := by rw [h0.cell]; exact h1
  have z1 := h0.frozen (off + 2)
  have c2 : (w.setCell ⟨fb, off + 2, none⟩ (.int .i64 ((n : Int) - 1))).cell? ⟨fb, off, none⟩ = some (.slice (some ⟨ob, 0, none⟩) rs.length cap) := by
    rw [(h0.setCell (off + 2) _).cell, List.getElem?_set_ne (by omega)]; exact h2
  have b1 := hide (h0.setCell (off + 2) (.int .i64 ((n : Int) - 1)))
  have u1 : Upd (fb :: bs) w (w.setCell ⟨fb, off + 2, none⟩ (.int .i64 ((n : Int) - 1))) := Upd.setCell w fb (off + 2) _ (by simp)
  have r1 : RowsAt (w.setCell ⟨fb, off + 2, none⟩ (.int .i64 ((n : Int) - 1))) ob bs rs := hr.upd (Upd.setCell (bs := [fb]) w fb (off + 2) _ (by simp)) (by simpa using hfo.symm) (fun b hb => by simp; rintro rfl; exact hfb hb)
  go_enter Try.func54, Try.ntmps54
  go_wp2
  go_loopw [1, 19] (fun iv kv wr => ∃ (j : Nat) (A R : List (List Nat)), j ≤ 1048576 ∧ kv = .int .i64 A.length ∧ iv = .int .i64 j ∧ A.length + R.length = rs.length ∧ InRows R j ∧ remRows rs i = A ++ remRows R j ∧ (∀ ws ∈ R, ∀ x ∈ ws, x < 2 ^ 64) ∧ RowsAt wr ob bs (A ++ R) ∧ Blk wr fb (cs.set (off + 2) (.int .i64 ((n : Int) - 1))) e ∧ Upd (fb :: bs) w wr) (fun _ kv _ => rs.length - (intOf kv).toNat)
  case atStart => exact ⟨i, [], rs, hi, rfl, rfl, by simp, hin, by simp, hw, r1, b1.out, u1⟩
  case round =>
    obtain ⟨j, A, R, hj, rfl, rfl, hlen, hinR, hadd, hwR, hrR, hb, hu⟩ := hrel
    clear r1 b1 u1 c2 c1 z1
    cases R with
    | nil =>
      have hA : rs.length = A.length := by simpa using hlen.symm
      go_wp2
      go_end0
      refine ⟨⟨_, rfl⟩, hb, ?_, hu⟩
      rw [hadd]; simpa [remRows] using hrR
    | cons ws R =>
      obtain ⟨hj2, hinR⟩ := hinR
      have hAl : A.length < rs.length := by simp at hlen; omega
      have hAb : A.length < bs.length := by have := hrR.len; simp at this; omega
      have co := hrR.outer A.length (by simp) hAb
      have cr := hrR.row A.length (by simp) hAb
      simp only [List.getElem_concat_length, List.getElem_append_right (Nat.le_refl _), Nat.sub_self, List.getElem_cons_zero] at co cr
      obtain ⟨x, hx⟩ : ∃ x, ws[j / 64]? = some x := ⟨_, List.getElem?_eq_getElem hj2⟩
      have hx64 : x < 2 ^ 64 := hwR ws (by simp) x (List.mem_of_getElem? hx)
      have cx : wr.cell? ⟨bs[A.length], j / 64, none⟩ = some (.int .u64 x) := by rw [cr.cell]; simp [hx, u64v]
      have zx := cr.frozen (j / 64)
      have hset := hide (hrR.setWord hAb (j / 64) (clr x (j % 64)))
      have hfne : fb ≠ bs[A.length] := fun e => hfb (e ▸ List.getElem_mem hAb)
      have hbs := hide (hb.setOther hfne (j / 64) (u64v (clr x (j % 64))))
      have hus := hide (hu.trans (Upd.setCell (bs := fb :: bs) wr bs[A.length] (j / 64) (u64v (clr x (j % 64))) (List.mem_cons_of_mem _ (List.getElem_mem hAb))))
      have hor := andNot_word x j hx64
      have hgd : ws.getD (j / 64) 0 = x := by simp [List.getD, hx]
      obtain ⟨y, hy⟩ : ∃ y, clr x (j % 64) = y := ⟨_, rfl⟩
      rw [hy] at hset hbs hus hor
      replace hy := hide hy
      obtain ⟨W2, hW2⟩ : ∃ W2, wr.setCell ⟨bs[A.length], j / 64, none⟩ (u64v y) = W2 := ⟨_, rfl⟩
      have cy : W2.cell? ⟨bs[A.length], j / 64, none⟩ = some (.int .u64 y) := by
        rw [← hW2, (cr.setCell (j / 64) (u64v y)).cell, List.getElem?_set_self (by simpa using hj2)]; rfl
      rw [hW2] at hset hbs hus
      unfold u64v at hW2
      by_cases hy0 : y = 0
      · have hd : ((y : Int) != 0) = false := by simp [hy0]
        have HY := hide hy0
        clear hy0
        go_wp2
        go_region
        have cy' : W2.drew.cell? ⟨bs[A.length], j / 64, none⟩ = some (.int .u64 y) := cy
        go_wp2
        go_roundw
        case rel =>
          refine ⟨j / 64, A ++ [ws.set (j / 64) y], R, by omega, by simp, by simp, by simp at hlen ⊢; omega, hinR, ?_, fun ws' h' => hwR ws' (List.mem_cons_of_mem _ h'), ?_, hbs.out.upd (Upd.drew [] _) (by simp), hus.out.trans (Upd.drew _ _)⟩
          · rw [hadd]; simp only [remRows, hgd, hy.out]; simp [HY.out]
          · have := hset.out.upd (Upd.drew [] _) (by simp) (by simp)
            simpa using this
        case measure => simp [intOf]; omega
      · have hd : ((y : Int) != 0) = true := by simp; exact hy0
        go_wp2
        go_region
        have cy' : W2.drew.cell? ⟨bs[A.length], j / 64, none⟩ = some (.int .u64 y) := cy
        go_wp2
        refine bodyPost_ret (results_none rfl _ _ _) rfl ?_
        refine ⟨⟨_, rfl⟩, hbs.out.upd (Upd.drew [] _) (by simp), ?_, hus.out.trans (Upd.drew _ _)⟩
        rw [hadd]
        simp only [remRows, hgd, hy.out]
        rw [if_pos hy0]
        exact hset.out.upd (Upd.drew [] _) (by simp) (by simp)
end Go.Proofs.Qxb6609507a
