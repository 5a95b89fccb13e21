/-
  No cell of these rows narrows 'for every input' (looked for: loops, veiled, ifaces, maps, wideKeys, modest, calm, conditions, laid).
  DERIVED. THE GIVEN ROWS OF THIS SEAT. 4 by the template 'for every input the law returns true; each argument reads behind the call as it read before'; 0 by the template 'total and deterministic' (their statements: Qxb6609507aTotals.lean).
  GIVEN WITH THE SEED: the statements are not yours to turn. If you find one false, say at which input.
  Laid BY PROGRAM, IN A SANDBOX (cutbox-rows.mjs): the forced cells as the released guide's own fill.sh prints them over the translation 42545b38a59b1838… (all of the seat's roots in one cut). By AI agents, Wed Nov 11 2026. No macro, syntax, notation, axiom, sorry.
-/
import Derived.Test.Qxb6609507aChecked
import GoSem.Claim
import GoSem.ClaimJoined
import GoSem.ClaimMapViews
import Derived.JoinedTies
import Derived.KernelRfl
namespace Go.Proofs.Qxb6609507a
/- THE CELL 'sum', in the pinned program and in every row, IS THE sha256 OF THE DUMP (.gsa) THAT Qxb6609507aProg.lean LOADS. Nothing in Lean hashes anything: it is a label: what it is worth is what the hold of that sum in a sandbox is worth. -/
noncomputable def Try.pinned : Pinned := { name := "qxb6609507a", sum := "42545b38a59b183882b21e7d7533c0f50bbd6b9c92c3661b0730115251cbb501", checked := Try.checked }
namespace Rows
def none {H : Type} : Left H := { results := [], args := [] }

/-- 'zzlaws_pkg_engine_b1.FnGrowForestMatchesLayoutModel': WHATEVER THE INPUT: true; the input reads as it did. -/
def fnGrowForestMatchesLayoutModelSpec : ChangeSpec := { name := "fnGrowForestMatchesLayoutModel", fn := fun _ => fun
  | [d1, d2, d3, d4, d5, d6] => { results := [.lit (.bool true)], args := [d1, d2, d3, d4, d5, d6] }
  | _ => none }
def fnGrowForestMatchesLayoutModelRow : OpenClaim := { program := "qxb6609507a", sum := "42545b38a59b183882b21e7d7533c0f50bbd6b9c92c3661b0730115251cbb501", func := "example.com/cellscape/cellscape/zzlaws_pkg_engine_b1.FnGrowForestMatchesLayoutModel", spec := "fnGrowForestMatchesLayoutModel", unfollowed := true, recurses := true, apart := false }
def FnGrowForestMatchesLayoutModelSaid : Prop := fnGrowForestMatchesLayoutModelRow.holds Try.pinned (OpenSpec.ofChange fnGrowForestMatchesLayoutModelSpec)

/-- ITS FALSE NEIGHBOUR: 'it returns false'. Refute it at one input. -/
def fnGrowForestMatchesLayoutModelWrong : ChangeSpec := { name := "fnGrowForestMatchesLayoutModel", fn := fun _ => fun
  | [d1, d2, d3, d4, d5, d6] => { results := [.lit (.bool false)], args := [d1, d2, d3, d4, d5, d6] }
  | _ => none }
def FnGrowForestMatchesLayoutModelWrongFalsely : Prop := fnGrowForestMatchesLayoutModelRow.holds Try.pinned (OpenSpec.ofChange fnGrowForestMatchesLayoutModelWrong)

/-- 'zzlaws_pkg_engine_b1.FnSetUnfreeTakesOutExactlyThatCell': WHATEVER THE INPUT: true; the input reads as it did. -/
def fnSetUnfreeTakesOutExactlyThatCellSpec : ChangeSpec := { name := "fnSetUnfreeTakesOutExactlyThatCell", fn := fun _ => fun
  | [d1, d2, d3, d4, d5, d6, d7, d8] => { results := [.lit (.bool true)], args := [d1, d2, d3, d4, d5, d6, d7, d8] }
  | _ => none }
def fnSetUnfreeTakesOutExactlyThatCellRow : OpenClaim := { program := "qxb6609507a", sum := "42545b38a59b183882b21e7d7533c0f50bbd6b9c92c3661b0730115251cbb501", func := "example.com/cellscape/cellscape/zzlaws_pkg_engine_b1.FnSetUnfreeTakesOutExactlyThatCell", spec := "fnSetUnfreeTakesOutExactlyThatCell", unfollowed := true, recurses := true, apart := false }
def FnSetUnfreeTakesOutExactlyThatCellSaid : Prop := fnSetUnfreeTakesOutExactlyThatCellRow.holds Try.pinned (OpenSpec.ofChange fnSetUnfreeTakesOutExactlyThatCellSpec)

/-- ITS FALSE NEIGHBOUR: 'it returns false'. Refute it at one input. -/
def fnSetUnfreeTakesOutExactlyThatCellWrong : ChangeSpec := { name := "fnSetUnfreeTakesOutExactlyThatCell", fn := fun _ => fun
  | [d1, d2, d3, d4, d5, d6, d7, d8] => { results := [.lit (.bool false)], args := [d1, d2, d3, d4, d5, d6, d7, d8] }
  | _ => none }
def FnSetUnfreeTakesOutExactlyThatCellWrongFalsely : Prop := fnSetUnfreeTakesOutExactlyThatCellRow.holds Try.pinned (OpenSpec.ofChange fnSetUnfreeTakesOutExactlyThatCellWrong)

/-- 'zzlaws_pkg_engine_b1.FnSetUnfreeAllThenSetFreeRestoresWords': WHATEVER THE INPUT: true; the input reads as it did. -/
def fnSetUnfreeAllThenSetFreeRestoresWordsSpec : ChangeSpec := { name := "fnSetUnfreeAllThenSetFreeRestoresWords", fn := fun _ => fun
  | [d1, d2, d3, d4, d5, d6] => { results := [.lit (.bool true)], args := [d1, d2, d3, d4, d5, d6] }
  | _ => none }
def fnSetUnfreeAllThenSetFreeRestoresWordsRow : OpenClaim := { program := "qxb6609507a", sum := "42545b38a59b183882b21e7d7533c0f50bbd6b9c92c3661b0730115251cbb501", func := "example.com/cellscape/cellscape/zzlaws_pkg_engine_b1.FnSetUnfreeAllThenSetFreeRestoresWords", spec := "fnSetUnfreeAllThenSetFreeRestoresWords", unfollowed := true, recurses := true, apart := false }
def FnSetUnfreeAllThenSetFreeRestoresWordsSaid : Prop := fnSetUnfreeAllThenSetFreeRestoresWordsRow.holds Try.pinned (OpenSpec.ofChange fnSetUnfreeAllThenSetFreeRestoresWordsSpec)

/-- ITS FALSE NEIGHBOUR: 'it returns false'. Refute it at one input. -/
def fnSetUnfreeAllThenSetFreeRestoresWordsWrong : ChangeSpec := { name := "fnSetUnfreeAllThenSetFreeRestoresWords", fn := fun _ => fun
  | [d1, d2, d3, d4, d5, d6] => { results := [.lit (.bool false)], args := [d1, d2, d3, d4, d5, d6] }
  | _ => none }
def FnSetUnfreeAllThenSetFreeRestoresWordsWrongFalsely : Prop := fnSetUnfreeAllThenSetFreeRestoresWordsRow.holds Try.pinned (OpenSpec.ofChange fnSetUnfreeAllThenSetFreeRestoresWordsWrong)

/-- 'zzlaws_pkg_engine_b1.FnGrowForestUnlinkedPositionsAgreeWithLinks': WHATEVER THE INPUT: true; the input reads as it did. -/
def fnGrowForestUnlinkedPositionsAgreeWithLinksSpec : ChangeSpec := { name := "fnGrowForestUnlinkedPositionsAgreeWithLinks", fn := fun _ => fun
  | [d1, d2, d3, d4, d5] => { results := [.lit (.bool true)], args := [d1, d2, d3, d4, d5] }
  | _ => none }
def fnGrowForestUnlinkedPositionsAgreeWithLinksRow : OpenClaim := { program := "qxb6609507a", sum := "42545b38a59b183882b21e7d7533c0f50bbd6b9c92c3661b0730115251cbb501", func := "example.com/cellscape/cellscape/zzlaws_pkg_engine_b1.FnGrowForestUnlinkedPositionsAgreeWithLinks", spec := "fnGrowForestUnlinkedPositionsAgreeWithLinks", unfollowed := true, recurses := true, apart := false }
def FnGrowForestUnlinkedPositionsAgreeWithLinksSaid : Prop := fnGrowForestUnlinkedPositionsAgreeWithLinksRow.holds Try.pinned (OpenSpec.ofChange fnGrowForestUnlinkedPositionsAgreeWithLinksSpec)

/-- ITS FALSE NEIGHBOUR: 'it returns false'. Refute it at one input. -/
def fnGrowForestUnlinkedPositionsAgreeWithLinksWrong : ChangeSpec := { name := "fnGrowForestUnlinkedPositionsAgreeWithLinks", fn := fun _ => fun
  | [d1, d2, d3, d4, d5] => { results := [.lit (.bool false)], args := [d1, d2, d3, d4, d5] }
  | _ => none }
def FnGrowForestUnlinkedPositionsAgreeWithLinksWrongFalsely : Prop := fnGrowForestUnlinkedPositionsAgreeWithLinksRow.holds Try.pinned (OpenSpec.ofChange fnGrowForestUnlinkedPositionsAgreeWithLinksWrong)

end Rows
end Go.Proofs.Qxb6609507a
