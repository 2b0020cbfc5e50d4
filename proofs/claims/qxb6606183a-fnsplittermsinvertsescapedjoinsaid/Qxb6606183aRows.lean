/-
  No cell of these rows narrows 'for every input' (looked for: loops, veiled, ifaces, maps, wideKeys, modest, calm, conditions, laid).
  DERIVED. THE GIVEN ROWS OF THIS SEAT. 4 by the template 'for every input the law returns true; each argument reads behind the call as it read before'; 0 by the template 'total and deterministic' (their statements: Qxb6606183aTotals.lean).
  GIVEN WITH THE SEED: the statements are not yours to turn. If you find one false, say at which input.
  Laid BY PROGRAM, IN A SANDBOX (cutbox-rows.mjs): the forced cells as the released guide's own fill.sh prints them over the translation 5efcff5335e8401b… (all of the seat's roots in one cut). By AI agents, Wed Nov 11 2026. No macro, syntax, notation, axiom, sorry.
-/
import Derived.Test.Qxb6606183aChecked
import GoSem.Claim
import GoSem.ClaimJoined
import GoSem.ClaimMapViews
import Derived.JoinedTies
import Derived.KernelRfl
namespace Go.Proofs.Qxb6606183a
/- THE CELL 'sum', in the pinned program and in every row, IS THE sha256 OF THE DUMP (.gsa) THAT Qxb6606183aProg.lean LOADS. Nothing in Lean hashes anything: it is a label: what it is worth is what the hold of that sum in a sandbox is worth. -/
noncomputable def Try.pinned : Pinned := { name := "qxb6606183a", sum := "5efcff5335e8401b7e549e2c35bb07a11d896c37b7507aff146873c7a8d29363", checked := Try.checked }
namespace Rows
def none {H : Type} : Left H := { results := [], args := [] }

/-- 'zzlaws_internal_selector_b1.FnSplitTermsMatchesBackslashParityModel': WHATEVER THE INPUT: true; the input reads as it did. -/
def fnSplitTermsMatchesBackslashParityModelSpec : ChangeSpec := { name := "fnSplitTermsMatchesBackslashParityModel", fn := fun _ => fun
  | [d] => { results := [.lit (.bool true)], args := [d] }
  | _ => none }
def fnSplitTermsMatchesBackslashParityModelRow : OpenClaim := { program := "qxb6606183a", sum := "5efcff5335e8401b7e549e2c35bb07a11d896c37b7507aff146873c7a8d29363", func := "example.com/consistent-list-watch/consistent-list-watch/zzlaws_internal_selector_b1.FnSplitTermsMatchesBackslashParityModel", spec := "fnSplitTermsMatchesBackslashParityModel", apart := false }
def FnSplitTermsMatchesBackslashParityModelSaid : Prop := fnSplitTermsMatchesBackslashParityModelRow.holds Try.pinned (OpenSpec.ofChange fnSplitTermsMatchesBackslashParityModelSpec)

/-- ITS FALSE NEIGHBOUR: 'it returns false'. Refute it at one input. -/
def fnSplitTermsMatchesBackslashParityModelWrong : ChangeSpec := { name := "fnSplitTermsMatchesBackslashParityModel", fn := fun _ => fun
  | [d] => { results := [.lit (.bool false)], args := [d] }
  | _ => none }
def FnSplitTermsMatchesBackslashParityModelWrongFalsely : Prop := fnSplitTermsMatchesBackslashParityModelRow.holds Try.pinned (OpenSpec.ofChange fnSplitTermsMatchesBackslashParityModelWrong)

/-- 'zzlaws_internal_selector_b1.FnSplitTermsInvertsEscapedJoin': WHATEVER THE INPUT: true; the input reads as it did. -/
def fnSplitTermsInvertsEscapedJoinSpec : ChangeSpec := { name := "fnSplitTermsInvertsEscapedJoin", fn := fun _ => fun
  | [d] => { results := [.lit (.bool true)], args := [d] }
  | _ => none }
def fnSplitTermsInvertsEscapedJoinRow : OpenClaim := { program := "qxb6606183a", sum := "5efcff5335e8401b7e549e2c35bb07a11d896c37b7507aff146873c7a8d29363", func := "example.com/consistent-list-watch/consistent-list-watch/zzlaws_internal_selector_b1.FnSplitTermsInvertsEscapedJoin", spec := "fnSplitTermsInvertsEscapedJoin", apart := false }
def FnSplitTermsInvertsEscapedJoinSaid : Prop := fnSplitTermsInvertsEscapedJoinRow.holds Try.pinned (OpenSpec.ofChange fnSplitTermsInvertsEscapedJoinSpec)

/-- ITS FALSE NEIGHBOUR: 'it returns false'. Refute it at one input. -/
def fnSplitTermsInvertsEscapedJoinWrong : ChangeSpec := { name := "fnSplitTermsInvertsEscapedJoin", fn := fun _ => fun
  | [d] => { results := [.lit (.bool false)], args := [d] }
  | _ => none }
def FnSplitTermsInvertsEscapedJoinWrongFalsely : Prop := fnSplitTermsInvertsEscapedJoinRow.holds Try.pinned (OpenSpec.ofChange fnSplitTermsInvertsEscapedJoinWrong)

/-- 'zzlaws_internal_selector_b1.FnTokenizeMatchesMergingModel': WHATEVER THE INPUT: true; the input reads as it did. -/
def fnTokenizeMatchesMergingModelSpec : ChangeSpec := { name := "fnTokenizeMatchesMergingModel", fn := fun _ => fun
  | [d] => { results := [.lit (.bool true)], args := [d] }
  | _ => none }
def fnTokenizeMatchesMergingModelRow : OpenClaim := { program := "qxb6606183a", sum := "5efcff5335e8401b7e549e2c35bb07a11d896c37b7507aff146873c7a8d29363", func := "example.com/consistent-list-watch/consistent-list-watch/zzlaws_internal_selector_b1.FnTokenizeMatchesMergingModel", spec := "fnTokenizeMatchesMergingModel", inPlace := ["internal/bytealg.IndexByteString"], apart := false }
def FnTokenizeMatchesMergingModelSaid : Prop := fnTokenizeMatchesMergingModelRow.holds Try.pinned (OpenSpec.ofChange fnTokenizeMatchesMergingModelSpec)

/-- ITS FALSE NEIGHBOUR: 'it returns false'. Refute it at one input. -/
def fnTokenizeMatchesMergingModelWrong : ChangeSpec := { name := "fnTokenizeMatchesMergingModel", fn := fun _ => fun
  | [d] => { results := [.lit (.bool false)], args := [d] }
  | _ => none }
def FnTokenizeMatchesMergingModelWrongFalsely : Prop := fnTokenizeMatchesMergingModelRow.holds Try.pinned (OpenSpec.ofChange fnTokenizeMatchesMergingModelWrong)

/-- 'zzlaws_internal_selector_b1.FnTokenizeSpaceSeparatesConcatenation': WHATEVER THE INPUT: true; the input reads as it did. -/
def fnTokenizeSpaceSeparatesConcatenationSpec : ChangeSpec := { name := "fnTokenizeSpaceSeparatesConcatenation", fn := fun _ => fun
  | [d1, d2] => { results := [.lit (.bool true)], args := [d1, d2] }
  | _ => none }
def fnTokenizeSpaceSeparatesConcatenationRow : OpenClaim := { program := "qxb6606183a", sum := "5efcff5335e8401b7e549e2c35bb07a11d896c37b7507aff146873c7a8d29363", func := "example.com/consistent-list-watch/consistent-list-watch/zzlaws_internal_selector_b1.FnTokenizeSpaceSeparatesConcatenation", spec := "fnTokenizeSpaceSeparatesConcatenation", inPlace := ["internal/bytealg.IndexByteString"], apart := false }
def FnTokenizeSpaceSeparatesConcatenationSaid : Prop := fnTokenizeSpaceSeparatesConcatenationRow.holds Try.pinned (OpenSpec.ofChange fnTokenizeSpaceSeparatesConcatenationSpec)

/-- ITS FALSE NEIGHBOUR: 'it returns false'. Refute it at one input. -/
def fnTokenizeSpaceSeparatesConcatenationWrong : ChangeSpec := { name := "fnTokenizeSpaceSeparatesConcatenation", fn := fun _ => fun
  | [d1, d2] => { results := [.lit (.bool false)], args := [d1, d2] }
  | _ => none }
def FnTokenizeSpaceSeparatesConcatenationWrongFalsely : Prop := fnTokenizeSpaceSeparatesConcatenationRow.holds Try.pinned (OpenSpec.ofChange fnTokenizeSpaceSeparatesConcatenationWrong)

end Rows
end Go.Proofs.Qxb6606183a
