/-
  No cell of these rows narrows 'for every input' (looked for: loops, veiled, ifaces, maps, wideKeys, modest, calm, conditions, laid).
  DERIVED. THE GIVEN ROWS OF THIS SEAT. 2 by the template 'for every input the law returns true; each argument reads behind the call as it read before'; 0 by the template 'total and deterministic' (their statements: Qxb6612636aTotals.lean).
  GIVEN WITH THE SEED: the statements are not yours to turn. If you find one false, say at which input.
  Laid BY PROGRAM, IN A SANDBOX (cutbox-rows.mjs): the forced cells as the released guide's own fill.sh prints them over the translation 829b6295c6c82352… (all of the seat's roots in one cut). By AI agents, Wed Nov 11 2026. No macro, syntax, notation, axiom, sorry.
-/
import Derived.Test.Qxb6612636aChecked
import GoSem.Claim
import GoSem.ClaimJoined
import GoSem.ClaimMapViews
import Derived.JoinedTies
import Derived.KernelRfl
namespace Go.Proofs.Qxb6612636a
/- THE CELL 'sum', in the pinned program and in every row, IS THE sha256 OF THE DUMP (.gsa) THAT Qxb6612636aProg.lean LOADS. Nothing in Lean hashes anything: it is a label: what it is worth is what the hold of that sum in a sandbox is worth. -/
noncomputable def Try.pinned : Pinned := { name := "qxb6612636a", sum := "829b6295c6c823528f1491a1cc9a406de624c87ac9f9f48c0626de0b8c60ea18", checked := Try.checked }
namespace Rows
def none {H : Type} : Left H := { results := [], args := [] }

/-- 'zzlaws_internal_lint_b1.FnWithRequestSplitsAtAnyCut': WHATEVER THE INPUT: true; the input reads as it did. -/
def fnWithRequestSplitsAtAnyCutSpec : ChangeSpec := { name := "fnWithRequestSplitsAtAnyCut", fn := fun _ => fun
  | [d1, d2] => { results := [.lit (.bool true)], args := [d1, d2] }
  | _ => none }
def fnWithRequestSplitsAtAnyCutRow : OpenClaim := { program := "qxb6612636a", sum := "829b6295c6c823528f1491a1cc9a406de624c87ac9f9f48c0626de0b8c60ea18", func := "example.com/plumbline/plumbline/zzlaws_internal_lint_b1.FnWithRequestSplitsAtAnyCut", spec := "fnWithRequestSplitsAtAnyCut", unfollowed := true, recurses := true, apart := false }
def FnWithRequestSplitsAtAnyCutSaid : Prop := fnWithRequestSplitsAtAnyCutRow.holds Try.pinned (OpenSpec.ofChange fnWithRequestSplitsAtAnyCutSpec)

/-- ITS FALSE NEIGHBOUR: 'it returns false'. Refute it at one input. -/
def fnWithRequestSplitsAtAnyCutWrong : ChangeSpec := { name := "fnWithRequestSplitsAtAnyCut", fn := fun _ => fun
  | [d1, d2] => { results := [.lit (.bool false)], args := [d1, d2] }
  | _ => none }
def FnWithRequestSplitsAtAnyCutWrongFalsely : Prop := fnWithRequestSplitsAtAnyCutRow.holds Try.pinned (OpenSpec.ofChange fnWithRequestSplitsAtAnyCutWrong)

/-- 'zzlaws_internal_lint_b1.FnWithRequestOneMethodPutInAnywhere': WHATEVER THE INPUT: true; the input reads as it did. -/
def fnWithRequestOneMethodPutInAnywhereSpec : ChangeSpec := { name := "fnWithRequestOneMethodPutInAnywhere", fn := fun _ => fun
  | [d1, d2, d3, d4] => { results := [.lit (.bool true)], args := [d1, d2, d3, d4] }
  | _ => none }
def fnWithRequestOneMethodPutInAnywhereRow : OpenClaim := { program := "qxb6612636a", sum := "829b6295c6c823528f1491a1cc9a406de624c87ac9f9f48c0626de0b8c60ea18", func := "example.com/plumbline/plumbline/zzlaws_internal_lint_b1.FnWithRequestOneMethodPutInAnywhere", spec := "fnWithRequestOneMethodPutInAnywhere", unfollowed := true, recurses := true, apart := false }
def FnWithRequestOneMethodPutInAnywhereSaid : Prop := fnWithRequestOneMethodPutInAnywhereRow.holds Try.pinned (OpenSpec.ofChange fnWithRequestOneMethodPutInAnywhereSpec)

/-- ITS FALSE NEIGHBOUR: 'it returns false'. Refute it at one input. -/
def fnWithRequestOneMethodPutInAnywhereWrong : ChangeSpec := { name := "fnWithRequestOneMethodPutInAnywhere", fn := fun _ => fun
  | [d1, d2, d3, d4] => { results := [.lit (.bool false)], args := [d1, d2, d3, d4] }
  | _ => none }
def FnWithRequestOneMethodPutInAnywhereWrongFalsely : Prop := fnWithRequestOneMethodPutInAnywhereRow.holds Try.pinned (OpenSpec.ofChange fnWithRequestOneMethodPutInAnywhereWrong)

end Rows
end Go.Proofs.Qxb6612636a
