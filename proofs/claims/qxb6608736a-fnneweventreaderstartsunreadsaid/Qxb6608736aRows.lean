/-
  No cell of these rows narrows 'for every input' (looked for: loops, veiled, ifaces, maps, wideKeys, modest, calm, conditions, laid).
  DERIVED. THE GIVEN ROWS OF THIS SEAT. 6 by the template 'for every input the law returns true; each argument reads behind the call as it read before'; 0 by the template 'total and deterministic' (their statements: Qxb6608736aTotals.lean).
  GIVEN WITH THE SEED: the statements are not yours to turn. If you find one false, say at which input.
  Laid BY PROGRAM, IN A SANDBOX (cutbox-rows.mjs): the forced cells as the released guide's own fill.sh prints them over the translation 62b3eadeabe1a22c… (all of the seat's roots in one cut). By AI agents, Wed Nov 11 2026. No macro, syntax, notation, axiom, sorry.
-/
import Derived.Test.Qxb6608736aChecked
import GoSem.Claim
import GoSem.ClaimJoined
import GoSem.ClaimMapViews
import Derived.JoinedTies
import Derived.KernelRfl
namespace Go.Proofs.Qxb6608736a
/- THE CELL 'sum', in the pinned program and in every row, IS THE sha256 OF THE DUMP (.gsa) THAT Qxb6608736aProg.lean LOADS. Nothing in Lean hashes anything: it is a label: what it is worth is what the hold of that sum in a sandbox is worth. -/
noncomputable def Try.pinned : Pinned := { name := "qxb6608736a", sum := "62b3eadeabe1a22c4fc026e95a6b79173e142b4a6a34457d9594841714d6e535", checked := Try.checked }
namespace Rows
def none {H : Type} : Left H := { results := [], args := [] }

/-- 'zzlaws_root_b1.FnNextChunkStepsOfTwo': WHATEVER THE INPUT: true; the input reads as it did. -/
def fnNextChunkStepsOfTwoSpec : ChangeSpec := { name := "fnNextChunkStepsOfTwo", fn := fun _ => fun
  | [d] => { results := [.lit (.bool true)], args := [d] }
  | _ => none }
def fnNextChunkStepsOfTwoRow : OpenClaim := { program := "qxb6608736a", sum := "62b3eadeabe1a22c4fc026e95a6b79173e142b4a6a34457d9594841714d6e535", func := "example.com/form211/form211/zzlaws_root_b1.FnNextChunkStepsOfTwo", spec := "fnNextChunkStepsOfTwo", apart := false }
def FnNextChunkStepsOfTwoSaid : Prop := fnNextChunkStepsOfTwoRow.holds Try.pinned (OpenSpec.ofChange fnNextChunkStepsOfTwoSpec)

/-- ITS FALSE NEIGHBOUR: 'it returns false'. Refute it at one input. -/
def fnNextChunkStepsOfTwoWrong : ChangeSpec := { name := "fnNextChunkStepsOfTwo", fn := fun _ => fun
  | [d] => { results := [.lit (.bool false)], args := [d] }
  | _ => none }
def FnNextChunkStepsOfTwoWrongFalsely : Prop := fnNextChunkStepsOfTwoRow.holds Try.pinned (OpenSpec.ofChange fnNextChunkStepsOfTwoWrong)

/-- 'zzlaws_root_b1.FnNextChunkDoublingFromNone': WHATEVER THE INPUT: true; the input reads as it did. -/
def fnNextChunkDoublingFromNoneSpec : ChangeSpec := { name := "fnNextChunkDoublingFromNone", fn := fun _ => fun
  | [d] => { results := [.lit (.bool true)], args := [d] }
  | _ => none }
def fnNextChunkDoublingFromNoneRow : OpenClaim := { program := "qxb6608736a", sum := "62b3eadeabe1a22c4fc026e95a6b79173e142b4a6a34457d9594841714d6e535", func := "example.com/form211/form211/zzlaws_root_b1.FnNextChunkDoublingFromNone", spec := "fnNextChunkDoublingFromNone", apart := false }
def FnNextChunkDoublingFromNoneSaid : Prop := fnNextChunkDoublingFromNoneRow.holds Try.pinned (OpenSpec.ofChange fnNextChunkDoublingFromNoneSpec)

/-- ITS FALSE NEIGHBOUR: 'it returns false'. Refute it at one input. -/
def fnNextChunkDoublingFromNoneWrong : ChangeSpec := { name := "fnNextChunkDoublingFromNone", fn := fun _ => fun
  | [d] => { results := [.lit (.bool false)], args := [d] }
  | _ => none }
def FnNextChunkDoublingFromNoneWrongFalsely : Prop := fnNextChunkDoublingFromNoneRow.holds Try.pinned (OpenSpec.ofChange fnNextChunkDoublingFromNoneWrong)

/-- 'zzlaws_root_b1.FnMaxAliasExpansionSettlesOnce': WHATEVER THE INPUT: true; the input reads as it did. -/
def fnMaxAliasExpansionSettlesOnceSpec : ChangeSpec := { name := "fnMaxAliasExpansionSettlesOnce", fn := fun _ => fun
  | [d1, d2, d3] => { results := [.lit (.bool true)], args := [d1, d2, d3] }
  | _ => none }
def fnMaxAliasExpansionSettlesOnceRow : OpenClaim := { program := "qxb6608736a", sum := "62b3eadeabe1a22c4fc026e95a6b79173e142b4a6a34457d9594841714d6e535", func := "example.com/form211/form211/zzlaws_root_b1.FnMaxAliasExpansionSettlesOnce", spec := "fnMaxAliasExpansionSettlesOnce", apart := false }
def FnMaxAliasExpansionSettlesOnceSaid : Prop := fnMaxAliasExpansionSettlesOnceRow.holds Try.pinned (OpenSpec.ofChange fnMaxAliasExpansionSettlesOnceSpec)

/-- ITS FALSE NEIGHBOUR: 'it returns false'. Refute it at one input. -/
def fnMaxAliasExpansionSettlesOnceWrong : ChangeSpec := { name := "fnMaxAliasExpansionSettlesOnce", fn := fun _ => fun
  | [d1, d2, d3] => { results := [.lit (.bool false)], args := [d1, d2, d3] }
  | _ => none }
def FnMaxAliasExpansionSettlesOnceWrongFalsely : Prop := fnMaxAliasExpansionSettlesOnceRow.holds Try.pinned (OpenSpec.ofChange fnMaxAliasExpansionSettlesOnceWrong)

/-- 'zzlaws_root_b1.FnPassJSONCharPassesOnce': WHATEVER THE INPUT: true; the input reads as it did. -/
def fnPassJSONCharPassesOnceSpec : ChangeSpec := { name := "fnPassJSONCharPassesOnce", fn := fun _ => fun
  | [d1, d2, d3, d4, d5, d6] => { results := [.lit (.bool true)], args := [d1, d2, d3, d4, d5, d6] }
  | _ => none }
def fnPassJSONCharPassesOnceRow : OpenClaim := { program := "qxb6608736a", sum := "62b3eadeabe1a22c4fc026e95a6b79173e142b4a6a34457d9594841714d6e535", func := "example.com/form211/form211/zzlaws_root_b1.FnPassJSONCharPassesOnce", spec := "fnPassJSONCharPassesOnce", apart := false }
def FnPassJSONCharPassesOnceSaid : Prop := fnPassJSONCharPassesOnceRow.holds Try.pinned (OpenSpec.ofChange fnPassJSONCharPassesOnceSpec)

/-- ITS FALSE NEIGHBOUR: 'it returns false'. Refute it at one input. -/
def fnPassJSONCharPassesOnceWrong : ChangeSpec := { name := "fnPassJSONCharPassesOnce", fn := fun _ => fun
  | [d1, d2, d3, d4, d5, d6] => { results := [.lit (.bool false)], args := [d1, d2, d3, d4, d5, d6] }
  | _ => none }
def FnPassJSONCharPassesOnceWrongFalsely : Prop := fnPassJSONCharPassesOnceRow.holds Try.pinned (OpenSpec.ofChange fnPassJSONCharPassesOnceWrong)

/-- 'zzlaws_root_b1.FnPassJSONCharOnlyAtItsPlace': WHATEVER THE INPUT: true; the input reads as it did. -/
def fnPassJSONCharOnlyAtItsPlaceSpec : ChangeSpec := { name := "fnPassJSONCharOnlyAtItsPlace", fn := fun _ => fun
  | [d1, d2, d3, d4, d5] => { results := [.lit (.bool true)], args := [d1, d2, d3, d4, d5] }
  | _ => none }
def fnPassJSONCharOnlyAtItsPlaceRow : OpenClaim := { program := "qxb6608736a", sum := "62b3eadeabe1a22c4fc026e95a6b79173e142b4a6a34457d9594841714d6e535", func := "example.com/form211/form211/zzlaws_root_b1.FnPassJSONCharOnlyAtItsPlace", spec := "fnPassJSONCharOnlyAtItsPlace", apart := false }
def FnPassJSONCharOnlyAtItsPlaceSaid : Prop := fnPassJSONCharOnlyAtItsPlaceRow.holds Try.pinned (OpenSpec.ofChange fnPassJSONCharOnlyAtItsPlaceSpec)

/-- ITS FALSE NEIGHBOUR: 'it returns false'. Refute it at one input. -/
def fnPassJSONCharOnlyAtItsPlaceWrong : ChangeSpec := { name := "fnPassJSONCharOnlyAtItsPlace", fn := fun _ => fun
  | [d1, d2, d3, d4, d5] => { results := [.lit (.bool false)], args := [d1, d2, d3, d4, d5] }
  | _ => none }
def FnPassJSONCharOnlyAtItsPlaceWrongFalsely : Prop := fnPassJSONCharOnlyAtItsPlaceRow.holds Try.pinned (OpenSpec.ofChange fnPassJSONCharOnlyAtItsPlaceWrong)

/-- 'zzlaws_root_b1.FnNewEventReaderStartsUnread': WHATEVER THE INPUT: true; the input reads as it did. -/
def fnNewEventReaderStartsUnreadSpec : ChangeSpec := { name := "fnNewEventReaderStartsUnread", fn := fun _ => fun
  | [d1, d2] => { results := [.lit (.bool true)], args := [d1, d2] }
  | _ => none }
def fnNewEventReaderStartsUnreadRow : OpenClaim := { program := "qxb6608736a", sum := "62b3eadeabe1a22c4fc026e95a6b79173e142b4a6a34457d9594841714d6e535", func := "example.com/form211/form211/zzlaws_root_b1.FnNewEventReaderStartsUnread", spec := "fnNewEventReaderStartsUnread", apart := false }
def FnNewEventReaderStartsUnreadSaid : Prop := fnNewEventReaderStartsUnreadRow.holds Try.pinned (OpenSpec.ofChange fnNewEventReaderStartsUnreadSpec)

/-- ITS FALSE NEIGHBOUR: 'it returns false'. Refute it at one input. -/
def fnNewEventReaderStartsUnreadWrong : ChangeSpec := { name := "fnNewEventReaderStartsUnread", fn := fun _ => fun
  | [d1, d2] => { results := [.lit (.bool false)], args := [d1, d2] }
  | _ => none }
def FnNewEventReaderStartsUnreadWrongFalsely : Prop := fnNewEventReaderStartsUnreadRow.holds Try.pinned (OpenSpec.ofChange fnNewEventReaderStartsUnreadWrong)

end Rows
end Go.Proofs.Qxb6608736a
