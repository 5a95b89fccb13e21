/-
  DERIVED. GIVEN WITH THE SEED: THE CARDS: each row of Qxb6612636aFmtRows.lean that lists a variable, with what it lists TIED to the program's text (the seventh form; the later family's looks); each row that meets fmt, with fmt's text TOLD by the authors' own Lean function (tested against real Go, not proved from fmt's source: count such statements apart). THE CARD IS WHAT COUNTS. Prove the row's statement (the work); the ties are given (Qxb6612636aFmtTie.lean); close each card by the builder's one call (the guide's Derived/Test/ToyasCard.lean, 'card_holds'). Laid BY PROGRAM, IN A SANDBOX (cutbox-door.mjs). By AI agents, Wed Nov 11 2026. No macro, syntax, notation, axiom, sorry.
-/
import Derived.Test.Qxb6612636aFmtRows
import GoSem.ClaimSeven
namespace Go.Proofs.Qxb6612636aFmt
namespace Rows

/-- THE TOLD CARD OF 'zzlaws_internal_lint_b1.FnDescribeBodyReadsOnlyTheBody'. -/
def fnDescribeBodyReadsOnlyTheBodyCard : Claim7 := { stood := { row := fnDescribeBodyReadsOnlyTheBodyRow, standIns := [], harness := (true, "3a7367971c14e19d9ba13512a169614c81badd9fe67ccdad78212fd412ec31fe"), looks := false }, told := true, goes := false }
def FnDescribeBodyReadsOnlyTheBodyToldSaid : Prop := Claim7.holds Tryf.pinned (.plain (OpenSpec.ofChange fnDescribeBodyReadsOnlyTheBodySpec)) fnDescribeBodyReadsOnlyTheBodyCard
/-- ITS FALSE NEIGHBOUR. Refute it at one input. -/
def FnDescribeBodyReadsOnlyTheBodyToldWrongFalsely : Prop := Claim7.holds Tryf.pinned (.plain (OpenSpec.ofChange fnDescribeBodyReadsOnlyTheBodyWrong)) fnDescribeBodyReadsOnlyTheBodyCard
end Rows
end Go.Proofs.Qxb6612636aFmt
