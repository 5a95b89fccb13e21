import Derived.Test.Qxb6612599aMem
namespace Go.Proofs.Qxb6612599a
open Go.ChangeShapes Go.WideShapes Go.ChangeAt Go.RowKit
open Go.Extern.Stop (cell)

theorem agg23 : aggB Try.prog 23 = true := by kernel_rfl
theorem agg46 : aggB Try.prog 46 = true := by kernel_rfl
theorem size23 : (Try.prog.info? 23).map (·.size) = some 20 := by kernel_rfl
theorem size46 : (Try.prog.info? 46).map (·.size) = some 27 := by kernel_rfl
theorem size5 : (Try.prog.info? 5).map (·.size) = some 1 := by kernel_rfl

/-- The seven cells of a provider behind its id. -/
def tail7 : List Value := [.int .u64 0, .int .u64 0, .pointer none, .int .u16 0, .int .u64 0, .int .i64 0, .pointer none]
/-- A provider's cells. -/
def prov (id : List UInt8) : List Value := id.map cell ++ tail7
theorem prov_length (id : List UInt8) (h : id.length = 20) : (prov id).length = 27 := by simp [prov, tail7, h]

theorem eq23 (w : World) (x y : List UInt8) (hx : x.length = 20) (hy : y.length = 20) :
    (binOp .eql 23 (.agg (x.map cell).toArray) (.agg (y.map cell).toArray)).run Try.prog w = .ok (.bool (x == y)) w :=
  run_eql_bytes w 23 5 20 Try.underlying23 Try.underlying5 (run_sizeOf size5) x y hx hy

theorem prov_id (y : List UInt8) (j : Nat) (v : Value) (h : (y.map cell)[j]? = some v) : (prov y)[j]? = some v := by
  unfold prov
  rw [List.getElem?_append_left (List.getElem?_eq_some_iff.1 h).1]; exact h

set_option maxHeartbeats 400000 in
theorem pred_any (id y : List UInt8) (hid : id.length = 20) (hy : y.length = 20) (b : Nat) (w : World) (hb : ∀ j v, (id.map cell)[j]? = some v → w.cell? ⟨b, 0 + j, none⟩ = some v) :
    Calls Try.prog 12 #[.agg (prov y).toArray, .pointer (some ⟨b, 0, none⟩)] w fun e w' => e = .returned (.bool (y == id)) ∧ Below w.heap.size w w' := by
  have hl1 := eq23
  have c1 : ∀ j v, (y.map cell)[j]? = some v → (w.alloc (.cells (prov y).toArray 46)).cell? ⟨w.heap.size, 0 + j, none⟩ = some v := fun j v h => by
    rw [Nat.zero_add, World.cell?_alloc_at _ _ _ _ rfl]; simpa using prov_id y j v h
  have c2 : ∀ j v, (id.map cell)[j]? = some v → (w.alloc (.cells (prov y).toArray 46)).cell? ⟨b, 0 + j, none⟩ = some v := fun j v h => by
    have := hb j v h
    rw [World.cell?_alloc_past _ _ _ (cell_lt this)]; exact this
  have H1 : Hid _ := c1
  have H2 : Hid _ := c2
  clear c1 c2 hb
  go_enter Try.func12, Try.ntmps12
  go_wp2_with (first
    | ((with_reducible refine gd_load 23 (.tmp 4) ?_); refine wpl_load rfl agg23 size23 (y.map cell) (by simp [hy]) (by exact H1.out) ?_)
    | ((with_reducible refine gd_load 23 (.tmp 1) ?_); refine wpl_load rfl agg23 size23 (id.map cell) (by simp [hid]) (by exact H2.out) ?_))
  go_ret
  exact ⟨rfl, (Below.refl _ _).alloc (Nat.le_refl _) _⟩

/-- What providerIndex answers. -/
def idx (ids : List (List UInt8)) (id : List UInt8) : Int := match ids.findIdx? (· == id) with | some k => (k : Int) | none => -1
theorem idx_hit {ids : List (List UInt8)} {id : List UInt8} {k : Nat} (hk : k < ids.length) (h : ids[k] = id) (hno : ∀ j (hj : j < k), ids[j]'(by omega) ≠ id) : idx ids id = k := by
  have : ids.findIdx? (· == id) = some k := by
    rw [List.findIdx?_eq_some_iff_getElem]
    exact ⟨hk, by simp [h], fun j hj => by simpa using hno j hj⟩
  simp [idx, this]
theorem idx_miss {ids : List (List UInt8)} {id : List UInt8} (hno : ∀ j (hj : j < ids.length), ids[j] ≠ id) : idx ids id = -1 := by
  have : ids.findIdx? (· == id) = none := by
    rw [List.findIdx?_eq_none_iff]
    intro x hx
    obtain ⟨j, hj, rfl⟩ := List.mem_iff_getElem.1 hx
    simpa using hno j hj
  simp [idx, this]

/-- Providers with these ids lie in block p, from its head. -/
def ProvIn (w : World) (p : Nat) (ids : List (List UInt8)) : Prop := ∀ k (hk : k < ids.length) j v, (prov ids[k])[j]? = some v → w.cell? ⟨p, k * 27 + j, none⟩ = some v
/-- An id lies in block b. -/
def IdIn (w : World) (b : Nat) (id : List UInt8) : Prop := ∀ j v, (id.map cell)[j]? = some v → w.cell? ⟨b, 0 + j, none⟩ = some v
theorem ProvIn.below {w w' : World} {B p : Nat} {ids : List (List UInt8)} (h : ProvIn w p ids) (hb : Below B w w') (hp : p < B) : ProvIn w' p ids := fun k hk j v hv => (hb.cell (p := ⟨p, k * 27 + j, none⟩) hp).trans (h k hk j v hv)
theorem IdIn.below {w w' : World} {B b : Nat} {id : List UInt8} (h : IdIn w b id) (hb : Below B w w') (hp : b < B) : IdIn w' b id := fun j v hv => (hb.cell (p := ⟨b, 0 + j, none⟩) hp).trans (h j v hv)
theorem IdIn.lt {w : World} {b : Nat} {id : List UInt8} (h : IdIn w b id) (hl : id.length = 20) : b < w.heap.size := by
  refine cell_lt (h 0 (cell (id[0]'(by omega))) ?_)
  simp [show 0 < id.length by omega]
theorem ProvIn.lt {w : World} {p : Nat} {ids : List (List UInt8)} (h : ProvIn w p ids) (hi : 0 < ids.length) : p < w.heap.size := by
  have hpos : 0 < (prov ids[0]).length := by simp [prov, tail7]
  exact cell_lt (h 0 hi 0 _ (List.getElem?_eq_getElem hpos))

set_option maxHeartbeats 1000000 in
theorem indexFunc_any (ids : List (List UInt8)) (hids : ∀ x ∈ ids, x.length = 20) (id : List UInt8) (hid : id.length = 20) (p b cap : Nat) (w : World) (hp : ProvIn w p ids) (hb : IdIn w b id) (hle : ids.length ≤ 32768) :
    Calls Try.prog 11 #[.slice (some ⟨p, 0, none⟩) ids.length cap, .func (.func 12) #[] #[.pointer (some ⟨b, 0, none⟩)]] w fun e w' => e = .returned (.int .i64 (idx ids id)) ∧ Below w.heap.size w w' := by
  go_enter Try.func11, Try.ntmps11
  go_wp2
  go_loopw [8] (fun i wr => ∃ k : Nat, k ≤ ids.length ∧ i = .int .i64 k ∧ Hid (∀ j (hj : j < k) (hl : j < ids.length), ids[j] ≠ id) ∧ Below w.heap.size w wr) (fun i _ => ids.length - (intOf i).toNat)
  case atStart => exact ⟨0, Nat.zero_le _, rfl, fun j hj => absurd hj (Nat.not_lt_zero _), Below.refl _ _⟩
  case round =>
    obtain ⟨k, hk, rfl, hno, hbel⟩ := hrel
    by_cases hlt : k < ids.length
    · have hpr := hp.below hbel (hp.lt (by omega))
      have hbr := hb.below hbel (hb.lt hid)
      have hkl : (ids[k]).length = 20 := hids _ (List.getElem_mem hlt)
      have hpl : (prov ids[k]).length = 27 := prov_length _ hkl
      by_cases heq : ids[k] = id
      · have hq : (ids[k] == id) = true := by simp [heq]
        have HX := hide (idx_hit hlt heq (fun j hj => (unhide hno) j hj (by omega)))
        clear heq
        go_wp2_with (first
          | ((with_reducible refine gd_load 46 (.tmp 14) ?_); refine wpl_load rfl agg46 size46 (prov ids[k]) hpl (by exact hpr k hlt) ?_)
          | (go_at_call 12; refine (pred_any id ids[k] hid hkl b _ hbr).mono ?_; rintro e w1 ⟨rfl, hb1⟩))
        go_ret
        exact ⟨by rw [unhide HX]; rfl, hbel.trans (hb1.mono hbel.size)⟩
      · have hq : (ids[k] == id) = false := by simp [heq]
        have HX : Hid (∀ j (hj : j < k + 1) (hl : j < ids.length), ids[j] ≠ id) := fun j hj hl => by
          by_cases hjk : j = k
          · subst hjk; exact heq
          · exact (unhide hno) j (by omega) hl
        clear heq
        go_wp2_with (first
          | ((with_reducible refine gd_load 46 (.tmp 14) ?_); refine wpl_load rfl agg46 size46 (prov ids[k]) hpl (by exact hpr k hlt) ?_)
          | (go_at_call 12; refine (pred_any id ids[k] hid hkl b _ hbr).mono ?_; rintro e w1 ⟨rfl, hb1⟩))
        go_roundw
        case rel => exact ⟨k + 1, by omega, by go_num, HX, hbel.trans (hb1.mono hbel.size)⟩
        case measure => simp [intOf]; omega
    · have HX := hide (idx_miss (ids := ids) (id := id) (fun j hj => (unhide hno) j (by omega) hj))
      go_wp2
      go_ret
      exact ⟨by rw [unhide HX]; rfl, hbel⟩
end Go.Proofs.Qxb6612599a
