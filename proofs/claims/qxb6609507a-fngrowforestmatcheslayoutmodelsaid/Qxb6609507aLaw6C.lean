import Derived.Test.Qxb6609507aLaw6B
import Derived.LaidEql
namespace Go.Proofs.Qxb6609507a
set_option linter.unusedVariables false
set_option linter.unusedSimpArgs false
open Go.ChangeShapes Go.WideShapes Go.ChangeAt Go.RowKit
theorem drewN_two (w : World) (n k : Nat) : (w.drewN n).drewN k = w.drewN (n + k) := by
  unfold World.drewN; simp [Nat.add_assoc]
theorem Nof_sz (T : Topo) : ∀ (tl : List Nat) (l : Nat), (∀ t ∈ tl, t ≤ 4) → Nof T tl l * T.sz l ≤ (tl.map T.sz).sum
  | [], l, _ => by simp [Nof]
  | t :: tl, l, h => by
    have ih := Nof_sz T tl l (fun x hx => h x (List.mem_cons_of_mem _ hx))
    have ht := h t (by simp)
    unfold Nof at ih ⊢
    simp only [List.map_cons, List.sum_cons, Nat.add_mul]
    by_cases hl : l ≤ t
    · rw [cntT_sz T t l ht hl]; omega
    · rw [cntT_above T t l (by omega)]; omega
theorem eq_ptr (d : Nat) (p : Addr) (w : World) : (Op.equalIn (d + 1) 62 (.pointer (some p)) (.pointer (some p))).run Try.prog w = .ok true w := by
  obtain ⟨j, hj, _⟩ := info_parts info93
  simp [Op.equalIn, run_underlying Try.underlying62, sizeOf, typeInfo, hj, run_sameAddr_same]
theorem run_neq_ptr (p : Addr) (w : World) : (binOp .neq 62 (.pointer (some p)) (.pointer (some p))).run Try.prog w = .ok (.bool false) w := by
  simp only [binOp]
  simp [Op.equal, Op.maxDepth, eq_ptr 9999 p w]
section
variable {T : Topo} {tl : List Nat} {fb kb : Nat} {lv lk : Nat → Nat} {W : World} {l i : Nat}
theorem par_in {linked : Bool} (h : ∀ n, Rd T tl linked fb kb lv lk (W.drewN n)) (hT : T.Ok) (ht : Tops T tl) (hl : l < 4) (hi : i < Nof T tl l) (hin : i < Nof T tl (l + 1) * T.fan (l + 1)) (n : Nat) :
    Calls Try.prog 48 #[.pointer (some ⟨fb, 0, none⟩), .pointer (some ⟨lv l, i * 6, none⟩)] (W.drewN n) fun e w' => e = .returned (.int .i32 ((i / T.fan (l + 1) : Nat) : Int)) ∧ ∃ m, w' = W.drewN m := by
  have hp := parent_lt hin
  have hib : i < 65536 := Nat.lt_of_lt_of_le hi (Nof_le ht l)
  have htop := (h n).top l (by omega) i hi
  rw [decide_eq_true hin] at htop
  cases linked with
  | false =>
    refine (parentOrd_unlinked fb l (W.drewN n) (lv l) (i * 6) i (T.fan (l + 1)) (by omega) htop ((h n).lev l (by omega) i hi) ((h n).ord l (by omega) i hi) (h n).lnk ((h n).fan (l + 1) (by omega)) hp.1 (hT.fan_le _) (by omega)).mono ?_
    rintro e w' ⟨rfl, k, rfl⟩
    exact ⟨rfl, n + k, drewN_two W n k⟩
  | true =>
    have hk1 := (h n).lk1 rfl l (by omega) i hi
    rw [show (linkD T (Nof T tl) l i).parent = ((i / T.fan (l + 1) : Nat) : Int) from if_pos hin] at hk1
    refine (parentOrd_linked fb l (W.drewN n) (lv l) (i * 6) i kb (lk l) _ _ _ (by omega) htop ((h n).lev l (by omega) i hi) ((h n).ord l (by omega) i hi) (h n).lnk ((h n).lks rfl l (by omega)) hi hk1).mono ?_
    rintro e w' ⟨rfl, k, rfl⟩
    exact ⟨rfl, n + k, drewN_two W n k⟩
theorem par_top {linked : Bool} (h : ∀ n, Rd T tl linked fb kb lv lk (W.drewN n)) (hl : l < 5) (hi : i < Nof T tl l) (hin : ¬ i < Nof T tl (l + 1) * T.fan (l + 1)) (n : Nat) :
    Calls Try.prog 48 #[.pointer (some ⟨fb, 0, none⟩), .pointer (some ⟨lv l, i * 6, none⟩)] (W.drewN n) fun e w' => e = .returned (.int .i32 (-1)) ∧ ∃ m, w' = W.drewN m := by
  have htop := (h n).top l hl i hi
  rw [decide_eq_false hin] at htop
  refine (parentOrd_top fb (W.drewN n) (lv l) (i * 6) htop).mono ?_
  rintro e w' ⟨rfl, rfl⟩
  exact ⟨rfl, n, rfl⟩
theorem first_at {linked : Bool} (h : ∀ n, Rd T tl linked fb kb lv lk (W.drewN n)) (ht : Tops T tl) (hl : l < 5) (hi : i < Nof T tl l) (n : Nat) :
    Calls Try.prog 47 #[.pointer (some ⟨fb, 0, none⟩), .int .i8 l, .int .i32 i] (W.drewN n) fun e w' => e = .returned (.int .i32 ((i : Int) * (T.sz l : Int))) ∧ ∃ m, w' = W.drewN m := by
  have hb : i * T.sz l ≤ 65536 := Nat.le_trans (Nat.mul_le_mul_right _ (Nat.le_of_lt hi)) (Nat.le_trans (Nof_sz T tl l ht.le) ht.sum)
  cases linked with
  | false =>
    refine (firstAt_unlinked fb l (W.drewN n) i (T.sz l) hl (h n).lnk ((h n).size l hl) (by rw [← Int.natCast_mul]; omega)).mono ?_
    rintro e w' ⟨rfl, rfl⟩
    exact ⟨rfl, n, rfl⟩
  | true =>
    have h0 := (h n).lk0 rfl l hl i hi
    rw [show ((linkD T (Nof T tl) l i).first : Int) = (i : Int) * (T.sz l : Int) from Int.natCast_mul i (T.sz l)] at h0
    refine (firstAt_linked fb l (W.drewN n) i kb (lk l) _ _ _ hl (h n).lnk ((h n).lks rfl l hl) hi h0).mono ?_
    rintro e w' ⟨rfl, rfl⟩
    exact ⟨rfl, n, rfl⟩
theorem parent_ptr (h : ∀ n, Rd T tl false fb kb lv lk (W.drewN n)) (hT : T.Ok) (ht : Tops T tl) (hl : l < 4) (hi : i < Nof T tl l) (hin : i < Nof T tl (l + 1) * T.fan (l + 1)) :
    Calls Try.prog 49 #[.pointer (some ⟨fb, 0, none⟩), .pointer (some ⟨lv l, i * 6, none⟩)] W fun e w' => e = .returned (.pointer (some ⟨lv (l + 1), i / T.fan (l + 1) * 6, none⟩)) ∧ ∃ m, w' = W.drewN m := by
  have hp := parent_lt hin
  have h0 : Rd T tl false fb kb lv lk W := h 0
  have htop := h0.top l (by omega) i hi
  rw [decide_eq_true hin] at htop
  exact parent_in fb l (lv l) (i * 6) (i / T.fan (l + 1)) (lv (l + 1)) _ _ W (by omega) htop (h0.lev l (by omega) i hi) (h0.levels (l + 1) (by omega)) hp.2 (fun k => par_in h hT ht hl hi hin k)
theorem parent_nil (h : ∀ n, Rd T tl false fb kb lv lk (W.drewN n)) (hl : l < 5) (hi : i < Nof T tl l) (hin : ¬ i < Nof T tl (l + 1) * T.fan (l + 1)) :
    Calls Try.prog 49 #[.pointer (some ⟨fb, 0, none⟩), .pointer (some ⟨lv l, i * 6, none⟩)] W fun e w' => e = .returned (.pointer none) ∧ ∃ m, w' = W.drewN m := by
  have h0 : Rd T tl false fb kb lv lk W := h 0
  have htop := h0.top l hl i hi
  rw [decide_eq_false hin] at htop
  refine (parent_top fb (lv l) (i * 6) W htop).mono ?_
  rintro e w' ⟨rfl, rfl⟩
  exact ⟨rfl, 0, rfl⟩
theorem link_at (h : Rd T tl true fb kb lv lk W) (hl : l < 5) (hi : i < Nof T tl l) :
    Calls Try.prog 34 #[.pointer (some ⟨fb, 0, none⟩), .int .i64 l, .int .i64 i] W fun e w' => e = .returned (.tuple #[.int .i32 (linkD T (Nof T tl) l i).first, .int .i32 (linkD T (Nof T tl) l i).parent, .int .i32 (linkD T (Nof T tl) l i).child]) ∧ ∃ k, w' = W.drewN k :=
  link_any fb l kb (lk l) _ _ i _ _ _ W hl h.lnk (h.lks rfl l hl) hi (h.lk0 rfl l hl i hi) (h.lk1 rfl l hl i hi) (h.lk2 rfl l hl i hi)
end
end Go.Proofs.Qxb6609507a
