/-
  No cell of these rows narrows 'for every input' (looked for: loops, veiled, ifaces, maps, wideKeys, modest, calm, conditions, laid).
  DERIVED. THE GIVEN ROWS OF THIS SEAT. 1 by the template 'for every input the law returns true; each argument reads behind the call as it read before'; 0 by the template 'total and deterministic' (their statements: Qxb6612636aFmtTotals.lean).
  GIVEN WITH THE SEED: the statements are not yours to turn. If you find one false, say at which input.
  Laid BY PROGRAM, IN A SANDBOX (cutbox-rows.mjs): the forced cells as the released guide's own fill.sh prints them over the translation 7b4d31169c31ec3b… (all of the seat's roots in one cut). By AI agents, Wed Nov 11 2026. No macro, syntax, notation, axiom, sorry.
-/
import Derived.Test.Qxb6612636aFmtChecked
import GoSem.Claim
import GoSem.ClaimJoined
import GoSem.ClaimMapViews
import Derived.JoinedTies
import Derived.KernelRfl
namespace Go.Proofs.Qxb6612636aFmt
/- THE CELL 'sum', in the pinned program and in every row, IS THE sha256 OF THE DUMP (.gsa) THAT Qxb6612636aFmtProg.lean LOADS. Nothing in Lean hashes anything: it is a label: what it is worth is what the hold of that sum in a sandbox is worth. -/
noncomputable def Tryf.pinned : Pinned := { name := "qxb6612636afmt", sum := "7b4d31169c31ec3bb7337273222d04c66adbf19dfcc35a64c6908abd43fd6d19", checked := Tryf.checked }
namespace Rows
def none {H : Type} : Left H := { results := [], args := [] }

/-- 'zzlaws_internal_lint_b1.FnDescribeBodyReadsOnlyTheBody': WHATEVER THE INPUT: true; the input reads as it did. -/
def fnDescribeBodyReadsOnlyTheBodySpec : ChangeSpec := { name := "fnDescribeBodyReadsOnlyTheBody", fn := fun _ => fun
  | [d1, d2, d3, d4, d5, d6, d7, d8] => { results := [.lit (.bool true)], args := [d1, d2, d3, d4, d5, d6, d7, d8] }
  | _ => none }
def fnDescribeBodyReadsOnlyTheBodyRow : OpenClaim := { program := "qxb6612636afmt", sum := "7b4d31169c31ec3bb7337273222d04c66adbf19dfcc35a64c6908abd43fd6d19", func := "example.com/plumbline/plumbline/zzlaws_internal_lint_b1.FnDescribeBodyReadsOnlyTheBody", spec := "fnDescribeBodyReadsOnlyTheBody", stops := ["fmt.Sprintf"], inPlace := ["fmt.Sprintf"], apart := false }
/-- NO THEOREM (fmt's text is open here; it may be false): for the released tool's asking of the row's closed facts alone. THE STATEMENT IS 'FnDescribeBodyReadsOnlyTheBodyToldSaid' (Qxb6612636aFmtCards.lean). -/
def FnDescribeBodyReadsOnlyTheBodyFormAsk : Prop := fnDescribeBodyReadsOnlyTheBodyRow.holds Tryf.pinned (OpenSpec.ofChange fnDescribeBodyReadsOnlyTheBodySpec)

/-- ITS FALSE NEIGHBOUR: 'it returns false'. Refute it at one input. -/
def fnDescribeBodyReadsOnlyTheBodyWrong : ChangeSpec := { name := "fnDescribeBodyReadsOnlyTheBody", fn := fun _ => fun
  | [d1, d2, d3, d4, d5, d6, d7, d8] => { results := [.lit (.bool false)], args := [d1, d2, d3, d4, d5, d6, d7, d8] }
  | _ => none }
def FnDescribeBodyReadsOnlyTheBodyWrongFormAsk : Prop := fnDescribeBodyReadsOnlyTheBodyRow.holds Tryf.pinned (OpenSpec.ofChange fnDescribeBodyReadsOnlyTheBodyWrong)

end Rows
end Go.Proofs.Qxb6612636aFmt
