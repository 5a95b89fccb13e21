import Derived.Test.Qxb6609507aGrow3
namespace Go.Proofs.Qxb6609507a
set_option linter.unusedVariables false
set_option linter.unusedSimpArgs false
open Go.ChangeShapes Go.WideShapes Go.ChangeAt Go.RowKit

/-! ### The forest's forty cells -/
structure FC where
  roots : Value
  runs : Value
  lvl : Nat → Value
  words : Nat → Value
  nums : Nat → Value
  n : Nat → Value
  lnk : Value
  inner : Nat → Value
  size : Nat → Value
  fan : Nat → Value
def FC.cells (F : FC) : List Value :=
  [F.roots, F.runs, F.lvl 0, F.lvl 1, F.lvl 2, F.lvl 3, F.lvl 4,
   F.words 0, F.nums 0, F.n 0, F.words 1, F.nums 1, F.n 1, F.words 2, F.nums 2, F.n 2, F.words 3, F.nums 3, F.n 3, F.words 4, F.nums 4, F.n 4,
   F.lnk, F.inner 0, F.inner 1, F.inner 2, F.inner 3, F.inner 4, F.size 0, F.size 1, F.size 2, F.size 3, F.size 4,
   F.fan 0, F.fan 1, F.fan 2, F.fan 3, F.fan 4, F.fan 5, .pointer none]
def upd (f : Nat → Value) (l : Nat) (v : Value) : Nat → Value := fun m => if m = l then v else f m
theorem FC.len (F : FC) : F.cells.length = 40 := rfl
theorem FC.get_lvl (F : FC) (l : Nat) (hl : l < 5) : F.cells[2 + l]? = some (F.lvl l) := by
  match l, hl with
  | 0, _ | 1, _ | 2, _ | 3, _ | 4, _ => rfl
theorem FC.get_words (F : FC) (l : Nat) (hl : l < 5) : F.cells[7 + l * 3]? = some (F.words l) := by
  match l, hl with
  | 0, _ | 1, _ | 2, _ | 3, _ | 4, _ => rfl
theorem FC.get_nums (F : FC) (l : Nat) (hl : l < 5) : F.cells[7 + l * 3 + 1]? = some (F.nums l) := by
  match l, hl with
  | 0, _ | 1, _ | 2, _ | 3, _ | 4, _ => rfl
theorem FC.get_n (F : FC) (l : Nat) (hl : l < 5) : F.cells[7 + l * 3 + 2]? = some (F.n l) := by
  match l, hl with
  | 0, _ | 1, _ | 2, _ | 3, _ | 4, _ => rfl
theorem FC.get_inner (F : FC) (l : Nat) (hl : l < 5) : F.cells[23 + l]? = some (F.inner l) := by
  match l, hl with
  | 0, _ | 1, _ | 2, _ | 3, _ | 4, _ => rfl
theorem FC.get_size (F : FC) (l : Nat) (hl : l < 5) : F.cells[28 + l]? = some (F.size l) := by
  match l, hl with
  | 0, _ | 1, _ | 2, _ | 3, _ | 4, _ => rfl
theorem FC.get_fan (F : FC) (l : Nat) (hl : l < 6) : F.cells[33 + l]? = some (F.fan l) := by
  match l, hl with
  | 0, _ | 1, _ | 2, _ | 3, _ | 4, _ | 5, _ => rfl
theorem FC.set_lvl (F : FC) (l : Nat) (hl : l < 5) (v : Value) : F.cells.set (2 + l) v = { F with lvl := upd F.lvl l v }.cells := by
  match l, hl with
  | 0, _ | 1, _ | 2, _ | 3, _ | 4, _ => rfl
theorem FC.set_n (F : FC) (l : Nat) (hl : l < 5) (v : Value) : F.cells.set (7 + l * 3 + 2) v = { F with n := upd F.n l v }.cells := by
  match l, hl with
  | 0, _ | 1, _ | 2, _ | 3, _ | 4, _ => rfl
theorem FC.set_free (F : FC) (l : Nat) (hl : l < 5) (a b c : Value) : F.cells.take (7 + l * 3) ++ [a, b, c] ++ F.cells.drop (7 + l * 3 + 3) = { F with words := upd F.words l a, nums := upd F.nums l b, n := upd F.n l c }.cells := by
  match l, hl with
  | 0, _ | 1, _ | 2, _ | 3, _ | 4, _ => rfl
theorem FC.set_inner (F : FC) (l : Nat) (hl : l < 5) (v : Value) : F.cells.set (23 + l) v = { F with inner := upd F.inner l v }.cells := by
  match l, hl with
  | 0, _ | 1, _ | 2, _ | 3, _ | 4, _ => rfl
theorem FC.set_size (F : FC) (l : Nat) (hl : l < 5) (v : Value) : F.cells.set (28 + l) v = { F with size := upd F.size l v }.cells := by
  match l, hl with
  | 0, _ | 1, _ | 2, _ | 3, _ | 4, _ => rfl
theorem FC.set_fan (F : FC) (l : Nat) (hl : l < 6) (v : Value) : F.cells.set (33 + l) v = { F with fan := upd F.fan l v }.cells := by
  match l, hl with
  | 0, _ | 1, _ | 2, _ | 3, _ | 4, _ | 5, _ => rfl
theorem FC.set_roots (F : FC) (v : Value) : F.cells.set 0 v = { F with roots := v }.cells := rfl
theorem FC.set_runs (F : FC) (v : Value) : F.cells.set 1 v = { F with runs := v }.cells := rfl
theorem FC.set_lnk (F : FC) (v : Value) : F.cells.set 22 v = { F with lnk := v }.cells := rfl

set_option maxHeartbeats 400000 in
/-- setFree (function 46). -/
theorem setFree_any (fb l n i : Nat) (F : FC) (ob cap : Nat) (bs : List Nat) (rs : List (List Nat)) (w : World) (hl : l < 5)
    (h0 : Blk w fb F.cells 88) (h1 : F.n l = .int .i64 n) (h2 : F.words l = .slice (some ⟨ob, 0, none⟩) rs.length cap) (hn : n ≤ 1048576) (hi : i ≤ 1048576) (hlr : rs.length ≤ 64)
    (hr : RowsAt w ob bs rs) (hfb : fb ∉ bs) (hfo : fb ≠ ob) (hin : InRows rs i) (hw : ∀ ws ∈ rs, ∀ x ∈ ws, x < 2 ^ 64) :
    Calls Try.prog 46 #[.pointer (some ⟨fb, 0, none⟩), .int .i8 l, .int .i32 i] w fun e' w' => (∃ v, e' = .returned v) ∧ Blk w' fb { F with n := upd F.n l (.int .i64 (n + 1 : Nat)) }.cells 88 ∧ RowsAt w' ob bs (addRows rs i) ∧ Upd (fb :: bs) w w' := by
  have ha := hide (add_any fb (7 + l * 3) n i F.cells 88 ob cap bs rs w h0 (by rw [F.get_n l hl, h1]) (by rw [F.get_words l hl, h2]) hn hi hlr hr hfb hfo hin hw)
  rw [F.set_n l hl] at ha
  go_enter Try.func46, Try.ntmps46
  go_wp2_with (go_at_call 55; refine ha.out.mono ?_; rintro e w1 ⟨⟨v, rfl⟩, hb1, hr1, hu1⟩)
  go_end0
  exact ⟨⟨_, rfl⟩, hb1, hr1, hu1⟩

theorem info48 : (Try.prog.info? 48).map (fun i => (i.zero, i.size, i.bytes)) = some (some (.int .i8 0), 1, 1) := by kernel_rfl
def lvV (t : Int) : Value := .int .i8 t
def lvRow (ts : List Int) (k : Nat) : List Value := (ts.take k).map lvV ++ List.replicate (ts.length - k) (.int .i8 0)
theorem lvRow_set (ts : List Int) (k : Nat) (hk : k < ts.length) : (lvRow ts k).set k (lvV ts[k]) = lvRow ts (k + 1) := by
  unfold lvRow
  rw [List.set_append_right _ _ (by simp; omega), show ts.length - k = (ts.length - (k + 1)) + 1 by omega, List.replicate_succ, ← List.take_append_getElem hk]
  have : k - ((ts.take k).map lvV).length = 0 := by simp; omega
  rw [this, List.set_cons_zero, List.map_append]
  simp
theorem lvRow_get (ts : List Int) (k : Nat) (hk : k < ts.length) : ∃ v, (lvRow ts k)[k]? = some v := by
  have : k < (lvRow ts k).length := by simp [lvRow]; omega
  exact ⟨_, List.getElem?_eq_getElem this⟩
set_option maxHeartbeats 400000 in
/-- zzLevels (function 12). -/
theorem levels_any (a : Option Addr) (ts : List Int) (cap : Nat) (w : World) (hin : TopsIn w a ts) (hl : ts.length ≤ 65536) :
    Calls Try.prog 12 #[.slice a ts.length cap] w fun e w' => e = .returned (.slice (some ⟨w.heap.size, 0, none⟩) ts.length ts.length) ∧ Blk w' w.heap.size (ts.map lvV) 48 ∧ Below w.heap.size w w' := by
  obtain ⟨i0, hi, hz0, hz1, hz2⟩ := info_parts info48
  replace hin := hide hin
  go_enter Try.func12, Try.ntmps12
  go_wp2_with (at_make; refine wpList_make_full _ rfl _ _ 40 rfl w.heap.size 48 i0 _ 1 Try.underlying40 hi hz0 hz1 _ _ _ _ ts.length rfl rfl rfl rfl (by rw [hz2]; omega) (by unfold maxLen; omega) (Nat.le_refl _) ?_; intro w1 hown hgrow)
  have hb0 : Blk w1 w.heap.size (lvRow ts 0) 48 := by
    have := ownsRow_blk hown
    rw [show (Value.int .i8 0).cells = #[Value.int .i8 0] from rfl, Nat.mul_one, toList_madeCells_one] at this
    simpa [lvRow] using this
  have hl1 : Below w.heap.size w w1 := (Below.refl _ _).grown hgrow (Nat.le_refl _) (fun k hk => by cases hk)
  clear hown hgrow
  go_loopw [4] (fun i wr => ∃ k : Nat, k ≤ ts.length ∧ i = .int .i64 k ∧ Blk wr w.heap.size (lvRow ts k) 48 ∧ Below w.heap.size w wr) (fun i _ => ts.length - (intOf i).toNat)
  case atStart => exact ⟨0, Nat.zero_le _, rfl, hb0, hl1⟩
  case round =>
    clear hb0 hl1
    obtain ⟨k, hk, rfl, hb, hbel⟩ := hrel
    by_cases hlt : k < ts.length
    · obtain ⟨b, o, rfl, hc, hbl, h8, h9⟩ := hin.out k hlt
      have hcx : wr.cell? ⟨b, o + k, none⟩ = some (.int .i8 ts[k]) := (hbel.cell (p := ⟨b, o + k, none⟩) hbl).trans hc
      obtain ⟨v0, hv0⟩ := lvRow_get ts k hlt
      have hcy : wr.cell? ⟨w.heap.size, k, none⟩ = some v0 := by rw [hb.cell]; exact hv0
      have hzy := hb.frozen k
      have hb' := hide (hb.setCell k (lvV ts[k]))
      rw [lvRow_set ts k hlt] at hb'
      have hbel' := hide (hbel.setCell (p := ⟨w.heap.size, k, none⟩) (Nat.le_refl _) (lvV ts[k]))
      go_wp2_with (fail)
      go_roundw
      case rel => exact ⟨k + 1, by omega, by simp, hb'.out, hbel'.out⟩
      case measure => simp [intOf]; omega
    · obtain rfl : k = ts.length := by omega
      go_wp2_with (fail)
      go_ret
      refine ⟨rfl, ?_, hbel⟩
      simpa [lvRow] using hb
end Go.Proofs.Qxb6609507a
