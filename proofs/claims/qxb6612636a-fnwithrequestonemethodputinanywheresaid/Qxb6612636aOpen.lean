import Derived.Test.Qxb6612636aLaw3
import Derived.Deep.SlicePairs
import Derived.ShutString
import Derived.ChangeOld
import Derived.ChangeMaps5
namespace Go.Proofs.Qxb6612636a
set_option linter.unusedVariables false
open Go.ChangeShapes Go.WideShapes Go.ChangeAt Go.RowKit Go.Deep
theorem own : ownKnob Try.prog.godebug = none := by kernel_rfl
theorem laidOut : laidOutB Try.prog = true := by kernel_rfl
theorem cells29 : Try.prog.cellsOf 29 = 2 := by kernel_rfl
theorem cells9 : Try.prog.cellsOf 9 = 1 := by kernel_rfl
theorem cells4 : Try.prog.cellsOf 4 = 1 := by kernel_rfl

section
variable {H : Type} {enc : TypeId × Value → H} {w : World} {base : Nat} {spare : Nat → Bool} {held : Bool}
/-- A slice of methods, opened. -/
theorem open_ms {fuel : Nat} {a : Option Addr} {len cap : Nat} {x : DataW H × List MemPlace} (h : DataW.trod enc Try.prog w base spare held fuel 22 [.slice a len cap] = some x) :
    ∃ ms : List (ByteArray × Bool), ms.length = len ∧ MsIn w a ms ∧ len ≤ maxLen ∧ ∀ m ∈ ms, m.1.size ≤ maxLen := by
  rcases open_slice_pairs Try.underlying22 Try.underlying29 cells29 rfl rfl cells9 cells4 h with ⟨hcs, _⟩ | ⟨x, l, c, m, n, V0, V1, D0, D1, P0, P1, hcs, _, hlc, hcm, hmm, _, hx⟩
  · simp at hcs
    obtain ⟨rfl, rfl, rfl⟩ := hcs
    exact ⟨[], rfl, fun k hk => absurd hk (by simp), Nat.zero_le _, by simp⟩
  · simp at hcs
    obtain ⟨rfl, rfl, rfl⟩ := hcs
    have hlm : len ≤ m := by rw [hmm]; split <;> omega
    obtain ⟨f, hf⟩ := choose_lt (α := ByteArray × Bool) (n := len) (p := fun i p => w.cell? (x.add (i * 2)) = some (.string p.1) ∧ w.cell? (x.add (i * 2 + 1)) = some (.bool p.2) ∧ p.1.size ≤ maxLen) (fun i hi => by
      obtain ⟨h0, h1, t0, t1⟩ := hx i (by omega)
      obtain ⟨s, hs, _, hsz⟩ := DataW.trod_string Try.underlying9 t0
      obtain ⟨b, hb, _⟩ := DataW.trod_bool Try.underlying4 t1
      simp at hs hb
      exact ⟨(s, b), by rw [h0, hs], by rw [h1, hb], hsz⟩)
    refine ⟨(List.range len).map f, by simp, ?_, by omega, ?_⟩
    · intro k hk
      have hk' : k < len := by simpa using hk
      have hsp : x.spot = none := by
        have := (hf 0 (by omega)).1
        unfold World.cell? at this
        simp only [Addr.add, Nat.zero_mul, if_true] at this
        split at this
        · cases hsp : x.spot with
          | none => rfl
          | some q => simp [hsp] at this
        · cases this
      obtain ⟨b, o, sp⟩ := x
      obtain rfl : sp = none := hsp
      have := hf k hk'
      rw [add_at, add_at] at this
      exact ⟨b, o, rfl, by simpa using this.1, by simpa [Nat.add_assoc] using this.2.1⟩
    · intro y hy
      obtain ⟨i, hi, rfl⟩ := List.mem_map.1 hy
      exact (hf i (List.mem_range.1 hi)).2.2
end
end Go.Proofs.Qxb6612636a
