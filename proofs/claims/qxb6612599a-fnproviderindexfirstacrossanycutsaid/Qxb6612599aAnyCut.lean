import Derived.Test.Qxb6612599aOpen
import Derived.Test.Qxb6612599aLaw3w
namespace Go.Proofs.Qxb6612599a
open Go.ChangeShapes Go.WideShapes Go.ChangeAt Go.RowKit
open Go.Extern.Stop (cell)
set_option linter.unusedVariables false

set_option maxRecDepth 100000 in
theorem lifted3 (os : Os) (started : os.Started) (H : Type) (enc : TypeId × Value → H) :
    ReturnsInHanded {} Try.checked os 3 .any (Rows.fnProviderIndexFirstAcrossAnyCutSpec.pre6 enc Try.prog Try.f3 Rows.fnProviderIndexFirstAcrossAnyCutRow.domain false) (Rows.fnProviderIndexFirstAcrossAnyCutSpec.post enc Try.prog Try.f3 false true false false) := by
  refine returnsInHanded_of_change (C := Try.checked) own started (by kernel_rfl) Try.func3
    (ChangeSpec.witness6 (enc := enc) (C := Try.checked) false ⟨#[], #[.slice none 0 0, .int .i64 0, .agg #[.int .u8 0, .int .u8 0, .int .u8 0, .int .u8 0, .int .u8 0, .int .u8 0, .int .u8 0, .int .u8 0, .int .u8 0, .int .u8 0, .int .u8 0, .int .u8 0, .int .u8 0, .int .u8 0, .int .u8 0, .int .u8 0, .int .u8 0, .int .u8 0, .int .u8 0, .int .u8 0]], []⟩ 8 (by kernel_rfl) (by kernel_rfl) (by kernel_rfl) (by kernel_rfl)) ?_
  intro W base args ds gs before hval0 hW hcnd _
  have hval : ∀ (j : Nat) t v, Try.f3.params[j]? = some t → args[j]? = some v → Value.okWide Try.prog W .any base t v := hval0
  have hW' := hW
  obtain ⟨p, q, hA0, hV, rfl, hfz, hnd⟩ := hW
  have hA : DataW.TrodAll enc Try.prog W 0 (fun _ => true) true Try.f3.params.toList args.toList ds p := hA0
  rw [Try.params3] at hA hval
  obtain ⟨v0, vs0, d0, ds0, p0, q0, hargs, rfl, rfl, h0, r0⟩ := trodAll_cons hA
  obtain ⟨v1, vs1, d1, ds1, p1, q1, rfl, rfl, rfl, h1, r1⟩ := trodAll_cons r0
  obtain ⟨v2, vs2, d2, ds2, p2, q2, rfl, rfl, rfl, h2, r2⟩ := trodAll_cons r1
  obtain ⟨rfl, rfl, rfl⟩ := trodAll_nil r2
  obtain rfl : args = #[v0, v1, v2] := by cases args; simp_all
  obtain ⟨rfl, rfl⟩ := trodVars_none hV
  obtain ⟨a0, len0, cap0, rfl⟩ := okWide_slice Try.underlying22 (hval 0 22 v0 rfl rfl)
  have k0 := h0
  have lt0 : ∀ x ∈ p0, x.block < W.heap.size := by obtain ⟨m, hm⟩ := k0; exact DataW.trod_lt m _ _ _ hm
  obtain ⟨ids, hlen, hids, hin, hmax⟩ : ∃ ids : List (List UInt8), ids.length = len0 ∧ (∀ y ∈ ids, y.length = 20) ∧ CameIn W a0 ids ∧ len0 ≤ maxLen := by
    obtain ⟨fuel, hf⟩ := h0
    exact open_ids hf
  obtain ⟨a1, rfl, rfl, rfl, w1⟩ := open_int Try.underlying3 (hval 1 3 v1 rfl rfl) h1
  have k2 := h2
  have lt2 : ∀ x ∈ p2, x.block < W.heap.size := by obtain ⟨m, hm⟩ := k2; exact DataW.trod_lt m _ _ _ hm
  obtain ⟨id, hid, hv2⟩ : ∃ id : List UInt8, id.length = 20 ∧ v2 = .agg (id.map cell).toArray := by
    obtain ⟨fuel, hf⟩ := h2
    obtain ⟨id, hid, hcs⟩ := open_id hf
    refine ⟨id, hid, ?_⟩
    have hc : v2.cells = (id.map cell).toArray := by rw [← Array.toArray_toList (xs := v2.cells), hcs]
    have hlen : v2.cells.size = 20 := by rw [hc]; simp [hid]
    cases v2 <;> simp [Value.cells] at hlen hc ⊢
    exact hc
  subst hv2
  clear hA0 hval0
  subst hlen
  refine (law3 a0 ids cap0 a1 id hid W hids hin hmax).mono fun e W' ⟨he, bel⟩ => ?_
  subst he
  exact ⟨_, rfl, _, _, _, [], _, [], hW', trodAll_mk1 (shut_bool Try.underlying4 _), (trodAll_cons_mk (Below.trod laidOut (by kernel_rfl) (of_decide_eq_true (by kernel_rfl)) k0 bel lt0) (trodAll_cons_mk (shut_int Try.underlying3 w1) (trodAll_cons_mk (Below.trod laidOut (by kernel_rfl) (of_decide_eq_true (by kernel_rfl)) k2 bel lt2) trodAll_mk0))), rfl, bel.frame _, fun h => by cases h⟩

theorem anyCut : Rows.FnProviderIndexFirstAcrossAnyCutSaid :=
  OpenClaim.holds_of_wide 3 Try.f3 rfl rfl rfl rfl rfl rfl rfl ⟨rfl, rfl, rfl, rfl, rfl⟩ rfl rfl rfl rfl rfl (by kernel_rfl) Try.func3 (by kernel_rfl)
    (of_decide_eq_true (by kernel_rfl)) (by unfold Func.isWrapper; first | (rw [if_pos (by decide +kernel)]; kernel_rfl) | (rw [if_neg (by decide +kernel)]; exact ⟨rfl, rfl⟩))
    (fun os started H enc _ => lifted3 os started H enc)
#print axioms anyCut
end Go.Proofs.Qxb6612599a
