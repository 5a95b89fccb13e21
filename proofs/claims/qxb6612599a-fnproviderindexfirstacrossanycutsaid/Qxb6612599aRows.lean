/-
  No cell of these rows narrows 'for every input' (looked for: loops, veiled, ifaces, maps, wideKeys, modest, calm, conditions, laid).
  DERIVED. THE GIVEN ROWS OF THIS SEAT. 2 by the template 'for every input the law returns true; each argument reads behind the call as it read before'; 0 by the template 'total and deterministic' (their statements: Qxb6612599aTotals.lean).
  GIVEN WITH THE SEED: the statements are not yours to turn. If you find one false, say at which input.
  Laid BY PROGRAM, IN A SANDBOX (cutbox-rows.mjs): the forced cells as the released guide's own fill.sh prints them over the translation 7eaa1636d4c2df67… (all of the seat's roots in one cut). By AI agents, Wed Nov 11 2026. No macro, syntax, notation, axiom, sorry.
-/
import Derived.Test.Qxb6612599aChecked
import GoSem.Claim
import GoSem.ClaimJoined
import GoSem.ClaimMapViews
import Derived.JoinedTies
import Derived.KernelRfl
namespace Go.Proofs.Qxb6612599a
/- THE CELL 'sum', in the pinned program and in every row, IS THE sha256 OF THE DUMP (.gsa) THAT Qxb6612599aProg.lean LOADS. Nothing in Lean hashes anything: it is a label: what it is worth is what the hold of that sum in a sandbox is worth. -/
noncomputable def Try.pinned : Pinned := { name := "qxb6612599a", sum := "7eaa1636d4c2df67e01379840c3756a9f9bc92c5dee380c3cb3f49e11af008b0", checked := Try.checked }
namespace Rows
def none {H : Type} : Left H := { results := [], args := [] }

/-- 'zzlaws_pkg_tracker_b1.FnProviderIndexFirstAcrossAnyCut': WHATEVER THE INPUT: true; the input reads as it did. -/
def fnProviderIndexFirstAcrossAnyCutSpec : ChangeSpec := { name := "fnProviderIndexFirstAcrossAnyCut", fn := fun _ => fun
  | [d1, d2, d3] => { results := [.lit (.bool true)], args := [d1, d2, d3] }
  | _ => none }
def fnProviderIndexFirstAcrossAnyCutRow : OpenClaim := { program := "qxb6612599a", sum := "7eaa1636d4c2df67e01379840c3756a9f9bc92c5dee380c3cb3f49e11af008b0", func := "example.com/swarmline/swarmline/zzlaws_pkg_tracker_b1.FnProviderIndexFirstAcrossAnyCut", spec := "fnProviderIndexFirstAcrossAnyCut", unfollowed := true, recurses := true, plainKeys := false, apart := false }
def FnProviderIndexFirstAcrossAnyCutSaid : Prop := fnProviderIndexFirstAcrossAnyCutRow.holds Try.pinned (OpenSpec.ofChange fnProviderIndexFirstAcrossAnyCutSpec)

/-- ITS FALSE NEIGHBOUR: 'it returns false'. Refute it at one input. -/
def fnProviderIndexFirstAcrossAnyCutWrong : ChangeSpec := { name := "fnProviderIndexFirstAcrossAnyCut", fn := fun _ => fun
  | [d1, d2, d3] => { results := [.lit (.bool false)], args := [d1, d2, d3] }
  | _ => none }
def FnProviderIndexFirstAcrossAnyCutWrongFalsely : Prop := fnProviderIndexFirstAcrossAnyCutRow.holds Try.pinned (OpenSpec.ofChange fnProviderIndexFirstAcrossAnyCutWrong)

/-- 'zzlaws_pkg_tracker_b1.FnProviderIndexFindsEachRegistered': WHATEVER THE INPUT: true; the input reads as it did. -/
def fnProviderIndexFindsEachRegisteredSpec : ChangeSpec := { name := "fnProviderIndexFindsEachRegistered", fn := fun _ => fun
  | [d1, d2] => { results := [.lit (.bool true)], args := [d1, d2] }
  | _ => none }
def fnProviderIndexFindsEachRegisteredRow : OpenClaim := { program := "qxb6612599a", sum := "7eaa1636d4c2df67e01379840c3756a9f9bc92c5dee380c3cb3f49e11af008b0", func := "example.com/swarmline/swarmline/zzlaws_pkg_tracker_b1.FnProviderIndexFindsEachRegistered", spec := "fnProviderIndexFindsEachRegistered", unfollowed := true, recurses := true, plainKeys := false, apart := false }
def FnProviderIndexFindsEachRegisteredSaid : Prop := fnProviderIndexFindsEachRegisteredRow.holds Try.pinned (OpenSpec.ofChange fnProviderIndexFindsEachRegisteredSpec)

/-- ITS FALSE NEIGHBOUR: 'it returns false'. Refute it at one input. -/
def fnProviderIndexFindsEachRegisteredWrong : ChangeSpec := { name := "fnProviderIndexFindsEachRegistered", fn := fun _ => fun
  | [d1, d2] => { results := [.lit (.bool false)], args := [d1, d2] }
  | _ => none }
def FnProviderIndexFindsEachRegisteredWrongFalsely : Prop := fnProviderIndexFindsEachRegisteredRow.holds Try.pinned (OpenSpec.ofChange fnProviderIndexFindsEachRegisteredWrong)

end Rows
end Go.Proofs.Qxb6612599a
