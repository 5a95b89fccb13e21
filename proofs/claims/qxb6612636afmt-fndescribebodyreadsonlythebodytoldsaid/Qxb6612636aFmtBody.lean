import Derived.Test.Qxb6612636aFmtFacts
import Derived.WalkKit
import Derived.WalkSpells
import Derived.Below
namespace Go.Proofs.Qxb6612636aFmt
open Go.RowKit Go.Extern.Stop Go.Stop Go.Extern

/-- What fmt is asked. -/
def reading (body : List UInt8) : List (List UInt8) := [[115, 101, 116, 115, 32, 72, 84, 84, 80, 32, 98, 111, 100, 121, 32, 37, 113], Tryf.shape9, FmtStop.pack body]

/-- What describeBody says, whatever F gives. -/
def said (F : Interp) (surface : Int) (body : ByteArray) : ByteArray :=
  bif surface == 2 then
    bif body.toList.isEmpty then ⟨#[104, 97, 115, 32, 110, 111, 32, 114, 101, 113, 117, 101, 115, 116, 66, 111, 100, 121]⟩ else ⟨#[104, 97, 115, 32, 97, 32, 114, 101, 113, 117, 101, 115, 116, 66, 111, 100, 121]⟩
  else bif body.toList.isEmpty then ⟨#[104, 97, 115, 32, 110, 111, 32, 72, 84, 84, 80, 32, 98, 111, 100, 121]⟩
  else FmtStop.textOf (F "fmt.Sprintf" (reading body.data.toList) 0)

theorem ret_str {a b : ByteArray} (h : a = b) : Ending.returned (.string a) = .returned (.string b) := by rw [h]

set_option maxHeartbeats 400000 in
theorem body_any (F : Interp) (b : Nat) (surface : Int) (v p body : ByteArray) (w : World) (hF : F.answers w.tape) (hb : w.cell? ⟨b, 1, none⟩ = some (.int .i64 surface)) (hlt : b < w.heap.size) :
    Calls Tryf.prog 6 #[.pointer (some ⟨b, 0, none⟩), .agg #[.string v, .string p, .string body]] w fun e w' => e = .returned (.string (said F surface body)) ∧ Below w.heap.size w w' := by
  have hF' := answers_open hF
  cases h1 : (surface == 2) <;> cases h2 : body.toList.isEmpty
  · have HS : Hid (said F surface body = FmtStop.textOf (F "fmt.Sprintf" (reading body.data.toList) 0)) := by unfold Hid said; rw [h1, h2]; rfl
    go_enter Tryf.func6, Tryf.ntmps6
    go_wp2
    go_ret
    exact ⟨ret_str HS.out.symm, (((Below.refl _ _).alloc (Nat.le_refl _) _).alloc (by simp) _).drew⟩
  · have HS : Hid (said F surface body = ⟨#[104, 97, 115, 32, 110, 111, 32, 72, 84, 84, 80, 32, 98, 111, 100, 121]⟩) := by unfold Hid said; rw [h1, h2]; rfl
    go_enter Tryf.func6, Tryf.ntmps6
    go_wp2
    go_ret
    exact ⟨ret_str HS.out.symm, (Below.refl _ _).alloc (Nat.le_refl _) _⟩
  · have HS : Hid (said F surface body = ⟨#[104, 97, 115, 32, 97, 32, 114, 101, 113, 117, 101, 115, 116, 66, 111, 100, 121]⟩) := by unfold Hid said; rw [h1, h2]; rfl
    go_enter Tryf.func6, Tryf.ntmps6
    go_wp2
    go_ret
    exact ⟨ret_str HS.out.symm, (Below.refl _ _).alloc (Nat.le_refl _) _⟩
  · have HS : Hid (said F surface body = ⟨#[104, 97, 115, 32, 110, 111, 32, 114, 101, 113, 117, 101, 115, 116, 66, 111, 100, 121]⟩) := by unfold Hid said; rw [h1, h2]; rfl
    go_enter Tryf.func6, Tryf.ntmps6
    go_wp2
    go_ret
    exact ⟨ret_str HS.out.symm, (Below.refl _ _).alloc (Nat.le_refl _) _⟩

set_option maxHeartbeats 400000 in
theorem zz_any (F : Interp) (b : Nat) (surface : Int) (v p body : ByteArray) (w : World) (hF : F.answers w.tape) (hb : w.cell? ⟨b, 1, none⟩ = some (.int .i64 surface)) (hlt : b < w.heap.size) :
    Calls Tryf.prog 5 #[.pointer (some ⟨b, 0, none⟩), .agg #[.string v, .string p, .string body]] w fun e w' => e = .returned (.string (said F surface body)) ∧ Below w.heap.size w w' := by
  have hbel : Below w.heap.size w (w.alloc (.cells #[.string v, .string p, .string body] 32)) := (Below.refl _ _).alloc (Nat.le_refl _) _
  have hb1 : (w.alloc (.cells #[.string v, .string p, .string body] 32)).cell? ⟨b, 1, none⟩ = some (.int .i64 surface) := (hbel.cell (p := ⟨b, 1, none⟩) hlt).trans hb
  have hlt1 : b < (w.alloc (.cells #[.string v, .string p, .string body] 32)).heap.size := by have := hbel.size; omega
  have H1 : Hid ((w.alloc (.cells #[.string v, .string p, .string body] 32)).cell? ⟨b, 1, none⟩ = some (.int .i64 surface)) := hb1
  clear hb1
  go_enter Tryf.func5, Tryf.ntmps5
  go_wp2_with (go_at_call 6; refine (body_any F b surface v p body _ (by exact hF) (by exact H1.out) (by exact hlt1)).mono ?_; rintro e w1 ⟨rfl, hl1⟩)
  go_ret
  exact ⟨rfl, hbel.trans (hl1.mono hbel.size)⟩
end Go.Proofs.Qxb6612636aFmt
