/-
  No cell of these rows narrows 'for every input' (looked for: loops, veiled, ifaces, maps, wideKeys, modest, calm, conditions, laid).
  DERIVED. THE GIVEN ROWS OF THIS SEAT. 2 by the template 'for every input the law returns true; each argument reads behind the call as it read before'; 0 by the template 'total and deterministic' (their statements: Qxb6613698aTotals.lean).
  GIVEN WITH THE SEED: the statements are not yours to turn. If you find one false, say at which input.
  Laid BY PROGRAM, IN A SANDBOX (cutbox-rows.mjs): the forced cells as the released guide's own fill.sh prints them over the translation a87fd310bd57922f… (all of the seat's roots in one cut). By AI agents, Wed Nov 11 2026. No macro, syntax, notation, axiom, sorry.
-/
import Derived.Test.Qxb6613698aChecked
import GoSem.Claim
import GoSem.ClaimJoined
import GoSem.ClaimMapViews
import Derived.JoinedTies
import Derived.KernelRfl
namespace Go.Proofs.Qxb6613698a
/- THE CELL 'sum', in the pinned program and in every row, IS THE sha256 OF THE DUMP (.gsa) THAT Qxb6613698aProg.lean LOADS. Nothing in Lean hashes anything: it is a label: what it is worth is what the hold of that sum in a sandbox is worth. -/
noncomputable def Try.pinned : Pinned := { name := "qxb6613698a", sum := "a87fd310bd57922fb43d7604e5df6bebfd7a21e1340ee5b329203e8bd5b9af53", checked := Try.checked }
namespace Rows
def none {H : Type} : Left H := { results := [], args := [] }

/-- 'zzlaws_pkg_yamldoc_b1.FnProblemsListsEveryProblemInFileOrder': WHATEVER THE INPUT: true; the input reads as it did. -/
def fnProblemsListsEveryProblemInFileOrderSpec : ChangeSpec := { name := "fnProblemsListsEveryProblemInFileOrder", fn := fun _ => fun
  | [d1, d2] => { results := [.lit (.bool true)], args := [d1, d2] }
  | _ => none }
def fnProblemsListsEveryProblemInFileOrderRow : OpenClaim := { program := "qxb6613698a", sum := "a87fd310bd57922fb43d7604e5df6bebfd7a21e1340ee5b329203e8bd5b9af53", func := "example.com/terms-for-tools/terms-for-tools/zzlaws_pkg_yamldoc_b1.FnProblemsListsEveryProblemInFileOrder", spec := "fnProblemsListsEveryProblemInFileOrder", unfollowed := true, recurses := true, apart := false }
def FnProblemsListsEveryProblemInFileOrderSaid : Prop := fnProblemsListsEveryProblemInFileOrderRow.holds Try.pinned (OpenSpec.ofChange fnProblemsListsEveryProblemInFileOrderSpec)

/-- ITS FALSE NEIGHBOUR: 'it returns false'. Refute it at one input. -/
def fnProblemsListsEveryProblemInFileOrderWrong : ChangeSpec := { name := "fnProblemsListsEveryProblemInFileOrder", fn := fun _ => fun
  | [d1, d2] => { results := [.lit (.bool false)], args := [d1, d2] }
  | _ => none }
def FnProblemsListsEveryProblemInFileOrderWrongFalsely : Prop := fnProblemsListsEveryProblemInFileOrderRow.holds Try.pinned (OpenSpec.ofChange fnProblemsListsEveryProblemInFileOrderWrong)

/-- 'zzlaws_pkg_yamldoc_b1.FnProblemsPlacesAProblemReportedAtAnyTime': WHATEVER THE INPUT: true; the input reads as it did. -/
def fnProblemsPlacesAProblemReportedAtAnyTimeSpec : ChangeSpec := { name := "fnProblemsPlacesAProblemReportedAtAnyTime", fn := fun _ => fun
  | [d1, d2, d3, d4] => { results := [.lit (.bool true)], args := [d1, d2, d3, d4] }
  | _ => none }
def fnProblemsPlacesAProblemReportedAtAnyTimeRow : OpenClaim := { program := "qxb6613698a", sum := "a87fd310bd57922fb43d7604e5df6bebfd7a21e1340ee5b329203e8bd5b9af53", func := "example.com/terms-for-tools/terms-for-tools/zzlaws_pkg_yamldoc_b1.FnProblemsPlacesAProblemReportedAtAnyTime", spec := "fnProblemsPlacesAProblemReportedAtAnyTime", unfollowed := true, recurses := true, apart := false }
def FnProblemsPlacesAProblemReportedAtAnyTimeSaid : Prop := fnProblemsPlacesAProblemReportedAtAnyTimeRow.holds Try.pinned (OpenSpec.ofChange fnProblemsPlacesAProblemReportedAtAnyTimeSpec)

/-- ITS FALSE NEIGHBOUR: 'it returns false'. Refute it at one input. -/
def fnProblemsPlacesAProblemReportedAtAnyTimeWrong : ChangeSpec := { name := "fnProblemsPlacesAProblemReportedAtAnyTime", fn := fun _ => fun
  | [d1, d2, d3, d4] => { results := [.lit (.bool false)], args := [d1, d2, d3, d4] }
  | _ => none }
def FnProblemsPlacesAProblemReportedAtAnyTimeWrongFalsely : Prop := fnProblemsPlacesAProblemReportedAtAnyTimeRow.holds Try.pinned (OpenSpec.ofChange fnProblemsPlacesAProblemReportedAtAnyTimeWrong)

end Rows
end Go.Proofs.Qxb6613698a
