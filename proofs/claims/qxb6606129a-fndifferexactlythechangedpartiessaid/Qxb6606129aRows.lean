/-
  No cell of these rows narrows 'for every input' (looked for: loops, veiled, ifaces, maps, wideKeys, modest, calm, conditions, laid).
  DERIVED. THE GIVEN ROWS OF THIS SEAT. 4 by the template 'for every input the law returns true; each argument reads behind the call as it read before'; 0 by the template 'total and deterministic' (their statements: Qxb6606129aTotals.lean).
  GIVEN WITH THE SEED: the statements are not yours to turn. If you find one false, say at which input.
  Laid BY PROGRAM, IN A SANDBOX (cutbox-rows.mjs): the forced cells as the released guide's own fill.sh prints them over the translation 1729e062115a7571… (all of the seat's roots in one cut). By AI agents, Wed Nov 11 2026. No macro, syntax, notation, axiom, sorry.
-/
import Derived.Test.Qxb6606129aChecked
import GoSem.Claim
import GoSem.ClaimJoined
import GoSem.ClaimMapViews
import Derived.JoinedTies
import Derived.KernelRfl
namespace Go.Proofs.Qxb6606129a
/- THE CELL 'sum', in the pinned program and in every row, IS THE sha256 OF THE DUMP (.gsa) THAT Qxb6606129aProg.lean LOADS. Nothing in Lean hashes anything: it is a label: what it is worth is what the hold of that sum in a sandbox is worth. -/
noncomputable def Try.pinned : Pinned := { name := "qxb6606129a", sum := "1729e062115a757163c98b71e48fd473a7e3a55fc166af33244dfbb421c69e71", checked := Try.checked }
namespace Rows
def none {H : Type} : Left H := { results := [], args := [] }

/-- 'zzlaws_internal_related_b1.FnDifferExactlyTheChangedParties': WHATEVER THE INPUT: true; the input reads as it did. -/
def fnDifferExactlyTheChangedPartiesSpec : ChangeSpec := { name := "fnDifferExactlyTheChangedParties", fn := fun _ => fun
  | [d1, d2, d3, d4] => { results := [.lit (.bool true)], args := [d1, d2, d3, d4] }
  | _ => none }
def fnDifferExactlyTheChangedPartiesRow : OpenClaim := { program := "qxb6606129a", sum := "1729e062115a757163c98b71e48fd473a7e3a55fc166af33244dfbb421c69e71", func := "example.com/armslength/armslength/zzlaws_internal_related_b1.FnDifferExactlyTheChangedParties", spec := "fnDifferExactlyTheChangedParties", apart := false }
def FnDifferExactlyTheChangedPartiesSaid : Prop := fnDifferExactlyTheChangedPartiesRow.holds Try.pinned (OpenSpec.ofChange fnDifferExactlyTheChangedPartiesSpec)

/-- ITS FALSE NEIGHBOUR: 'it returns false'. Refute it at one input. -/
def fnDifferExactlyTheChangedPartiesWrong : ChangeSpec := { name := "fnDifferExactlyTheChangedParties", fn := fun _ => fun
  | [d1, d2, d3, d4] => { results := [.lit (.bool false)], args := [d1, d2, d3, d4] }
  | _ => none }
def FnDifferExactlyTheChangedPartiesWrongFalsely : Prop := fnDifferExactlyTheChangedPartiesRow.holds Try.pinned (OpenSpec.ofChange fnDifferExactlyTheChangedPartiesWrong)

/-- 'zzlaws_internal_related_b1.FnDifferReportsTheOneChangedList': WHATEVER THE INPUT: true; the input reads as it did. -/
def fnDifferReportsTheOneChangedListSpec : ChangeSpec := { name := "fnDifferReportsTheOneChangedList", fn := fun _ => fun
  | [d1, d2, d3, d4] => { results := [.lit (.bool true)], args := [d1, d2, d3, d4] }
  | _ => none }
def fnDifferReportsTheOneChangedListRow : OpenClaim := { program := "qxb6606129a", sum := "1729e062115a757163c98b71e48fd473a7e3a55fc166af33244dfbb421c69e71", func := "example.com/armslength/armslength/zzlaws_internal_related_b1.FnDifferReportsTheOneChangedList", spec := "fnDifferReportsTheOneChangedList", apart := false }
def FnDifferReportsTheOneChangedListSaid : Prop := fnDifferReportsTheOneChangedListRow.holds Try.pinned (OpenSpec.ofChange fnDifferReportsTheOneChangedListSpec)

/-- ITS FALSE NEIGHBOUR: 'it returns false'. Refute it at one input. -/
def fnDifferReportsTheOneChangedListWrong : ChangeSpec := { name := "fnDifferReportsTheOneChangedList", fn := fun _ => fun
  | [d1, d2, d3, d4] => { results := [.lit (.bool false)], args := [d1, d2, d3, d4] }
  | _ => none }
def FnDifferReportsTheOneChangedListWrongFalsely : Prop := fnDifferReportsTheOneChangedListRow.holds Try.pinned (OpenSpec.ofChange fnDifferReportsTheOneChangedListWrong)

/-- 'zzlaws_internal_related_b1.FnDifferNoneAgainstItsOwnCopy': WHATEVER THE INPUT: true; the input reads as it did. -/
def fnDifferNoneAgainstItsOwnCopySpec : ChangeSpec := { name := "fnDifferNoneAgainstItsOwnCopy", fn := fun _ => fun
  | [d1, d2] => { results := [.lit (.bool true)], args := [d1, d2] }
  | _ => none }
def fnDifferNoneAgainstItsOwnCopyRow : OpenClaim := { program := "qxb6606129a", sum := "1729e062115a757163c98b71e48fd473a7e3a55fc166af33244dfbb421c69e71", func := "example.com/armslength/armslength/zzlaws_internal_related_b1.FnDifferNoneAgainstItsOwnCopy", spec := "fnDifferNoneAgainstItsOwnCopy", apart := false }
def FnDifferNoneAgainstItsOwnCopySaid : Prop := fnDifferNoneAgainstItsOwnCopyRow.holds Try.pinned (OpenSpec.ofChange fnDifferNoneAgainstItsOwnCopySpec)

/-- ITS FALSE NEIGHBOUR: 'it returns false'. Refute it at one input. -/
def fnDifferNoneAgainstItsOwnCopyWrong : ChangeSpec := { name := "fnDifferNoneAgainstItsOwnCopy", fn := fun _ => fun
  | [d1, d2] => { results := [.lit (.bool false)], args := [d1, d2] }
  | _ => none }
def FnDifferNoneAgainstItsOwnCopyWrongFalsely : Prop := fnDifferNoneAgainstItsOwnCopyRow.holds Try.pinned (OpenSpec.ofChange fnDifferNoneAgainstItsOwnCopyWrong)

/-- 'zzlaws_internal_related_b1.FnUnionIsTheOrOfTheUsedSteps': WHATEVER THE INPUT: true; the input reads as it did. -/
def fnUnionIsTheOrOfTheUsedStepsSpec : ChangeSpec := { name := "fnUnionIsTheOrOfTheUsedSteps", fn := fun _ => fun
  | [d1, d2, d3] => { results := [.lit (.bool true)], args := [d1, d2, d3] }
  | _ => none }
def fnUnionIsTheOrOfTheUsedStepsRow : OpenClaim := { program := "qxb6606129a", sum := "1729e062115a757163c98b71e48fd473a7e3a55fc166af33244dfbb421c69e71", func := "example.com/armslength/armslength/zzlaws_internal_related_b1.FnUnionIsTheOrOfTheUsedSteps", spec := "fnUnionIsTheOrOfTheUsedSteps", apart := false }
def FnUnionIsTheOrOfTheUsedStepsSaid : Prop := fnUnionIsTheOrOfTheUsedStepsRow.holds Try.pinned (OpenSpec.ofChange fnUnionIsTheOrOfTheUsedStepsSpec)

/-- ITS FALSE NEIGHBOUR: 'it returns false'. Refute it at one input. -/
def fnUnionIsTheOrOfTheUsedStepsWrong : ChangeSpec := { name := "fnUnionIsTheOrOfTheUsedSteps", fn := fun _ => fun
  | [d1, d2, d3] => { results := [.lit (.bool false)], args := [d1, d2, d3] }
  | _ => none }
def FnUnionIsTheOrOfTheUsedStepsWrongFalsely : Prop := fnUnionIsTheOrOfTheUsedStepsRow.holds Try.pinned (OpenSpec.ofChange fnUnionIsTheOrOfTheUsedStepsWrong)

end Rows
end Go.Proofs.Qxb6606129a
