import Derived.Test.Qxb6612599aLaw4
import Derived.Deep.Slices
import Derived.ShutString
import Derived.ChangeOld
namespace Go.Proofs.Qxb6612599a
open Go.ChangeShapes Go.WideShapes Go.ChangeAt Go.RowKit Go.Deep
open Go.Extern.Stop (cell)

theorem own : ownKnob Try.prog.godebug = none := by kernel_rfl
theorem laidOut : laidOutB Try.prog = true := by kernel_rfl
theorem cells5 : Try.prog.cellsOf 5 = 1 := by kernel_rfl
theorem cells23 : Try.prog.cellsOf 23 = 20 := by kernel_rfl

section
variable {H : Type} {enc : TypeId × Value → H} {w : World} {base : Nat} {spare : Nat → Bool} {held : Bool}

/-- Twenty cells that read as a [20]byte are twenty bytes. -/
theorem open_id {fuel : Nat} {cs : List Value} {x : DataW H × List MemPlace} (h : DataW.trod enc Try.prog w base spare held fuel 23 cs = some x) : ∃ id : List UInt8, id.length = 20 ∧ cs = id.map cell := by
  obtain ⟨xs, m, _, _, hlen, hl, hel⟩ := DataW.trod_array Try.underlying23 h
  rw [cells23] at hlen
  have key : ∀ j, j < 20 → ∃ b : UInt8, cs[j]? = some (cell b) := by
    intro j hj
    have h1 := hel j hj
    rw [cells5, Nat.mul_one, List.getElem?_eq_getElem (show j < xs.length by omega)] at h1
    obtain ⟨n, hn, _, hwf⟩ := DataW.trod_int Try.underlying5 h1
    have hb := bounds_u8 hwf
    have h2 : cs[j]? = some (.int .u8 n) := by
      have : ((cs.drop j).take 1)[0]? = some (.int .u8 n) := by rw [hn]; rfl
      simpa using this
    refine ⟨UInt8.ofNat n.toNat, ?_⟩
    rw [h2, cell]
    congr 2
    simp
    omega
  obtain ⟨f, hf⟩ := choose_lt (α := UInt8) key
  refine ⟨(List.range 20).map f, by simp, ?_⟩
  apply List.ext_getElem?
  intro j
  by_cases hj : j < 20
  · rw [hf j hj]; simp [hj]
  · rw [List.getElem?_eq_none (by omega), List.getElem?_eq_none (by simp; omega)]

/-- A slice of ids, opened. -/
theorem open_ids {fuel : Nat} {a : Option Addr} {len cap : Nat} {x : DataW H × List MemPlace} (h : DataW.trod enc Try.prog w base spare held fuel 22 [.slice a len cap] = some x) :
    ∃ ids : List (List UInt8), ids.length = len ∧ (∀ y ∈ ids, y.length = 20) ∧ CameIn w a ids ∧ len ≤ maxLen := by
  rcases open_slice Try.underlying22 h with ⟨hcs, _⟩ | ⟨x, l, c, m, n, D, Pl, hcs, _, hlc, hcm, hmm, _, hx⟩
  · simp at hcs
    obtain ⟨rfl, rfl, rfl⟩ := hcs
    exact ⟨[], rfl, by simp, .inl ⟨rfl, rfl⟩, Nat.zero_le _⟩
  · simp at hcs
    obtain ⟨rfl, rfl, rfl⟩ := hcs
    have hlm : len ≤ m := by rw [hmm]; split <;> omega
    obtain ⟨f, hf⟩ := choose_lt (α := List UInt8) (n := len) (p := fun i id => id.length = 20 ∧ ∀ j v, (id.map cell)[j]? = some v → w.cell? (x.add (i * 20 + j)) = some v) (fun i hi => by
      obtain ⟨cs', h1, h2⟩ := hx i (by omega)
      obtain ⟨id, hid, rfl⟩ := open_id h2
      refine ⟨id, hid, fun j v hv => ?_⟩
      have hj : j < 20 := by have := (List.getElem?_eq_some_iff.1 hv).1; simpa [hid] using this
      rw [cells23] at h1
      have := (World.cells?_some h1).2.2 j hj
      rw [add_add] at this
      rw [this]; exact hv)
    have hall : ∀ y ∈ (List.range len).map f, y.length = 20 := by
      intro y hy
      obtain ⟨i, hi, rfl⟩ := List.mem_map.1 hy
      exact (hf i (List.mem_range.1 hi)).1
    refine ⟨(List.range len).map f, by simp, hall, .inr ⟨x, rfl, ?_⟩, by omega⟩
    intro j v hv
    have hj : j < len * 20 := by
      have := (List.getElem?_eq_some_iff.1 hv).1
      rw [flat23_length _ hall] at this
      simpa using this
    have hk : j / 20 < len := by omega
    have hr : j % 20 < 20 := by omega
    have hp := piece idc 20 ((List.range len).map f) (fun y hy => by simp [idc, hall y hy]) (j / 20) (by simpa using hk) (j % 20) hr
    rw [show j / 20 * 20 + j % 20 = j by omega] at hp
    rw [hp] at hv
    have := (hf (j / 20) hk).2 (j % 20) v (by simpa [idc] using hv)
    rwa [show j / 20 * 20 + j % 20 = j by omega] at this
end
end Go.Proofs.Qxb6612599a
