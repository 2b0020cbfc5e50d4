/-
  No cell of these rows narrows 'for every input' (looked for: loops, veiled, ifaces, maps, wideKeys, modest, calm, conditions, laid).
  DERIVED. THE GIVEN ROWS OF THIS SEAT. 2 by the template 'for every input the law returns true; each argument reads behind the call as it read before'; 0 by the template 'total and deterministic' (their statements: Qxb6605577aTotals.lean).
  GIVEN WITH THE SEED: the statements are not yours to turn. If you find one false, say at which input.
  Laid BY PROGRAM, IN A SANDBOX (cutbox-rows.mjs): the forced cells as the released guide's own fill.sh prints them over the translation 4cd91ba7c5f39862… (all of the seat's roots in one cut). By AI agents, Wed Nov 11 2026. No macro, syntax, notation, axiom, sorry.
-/
import Derived.Test.Qxb6605577aChecked
import GoSem.Claim
import GoSem.ClaimJoined
import GoSem.ClaimMapViews
import Derived.JoinedTies
import Derived.KernelRfl
namespace Go.Proofs.Qxb6605577a
/- THE CELL 'sum', in the pinned program and in every row, IS THE sha256 OF THE DUMP (.gsa) THAT Qxb6605577aProg.lean LOADS. Nothing in Lean hashes anything: it is a label: what it is worth is what the hold of that sum in a sandbox is worth. -/
noncomputable def Try.pinned : Pinned := { name := "qxb6605577a", sum := "4cd91ba7c5f39862443593ffd3895a4364a6f09c9da8c78fa46abc2af50c0d76", checked := Try.checked }
namespace Rows
def none {H : Type} : Left H := { results := [], args := [] }

/-- 'zzlaws_clearing_b1.FnAllDigitsCountsDigits': WHATEVER THE INPUT: true; the input reads as it did. -/
def fnAllDigitsCountsDigitsSpec : ChangeSpec := { name := "fnAllDigitsCountsDigits", fn := fun _ => fun
  | [d] => { results := [.lit (.bool true)], args := [d] }
  | _ => none }
def fnAllDigitsCountsDigitsRow : OpenClaim := { program := "qxb6605577a", sum := "4cd91ba7c5f39862443593ffd3895a4364a6f09c9da8c78fa46abc2af50c0d76", func := "example.com/troy-ledger/troy-ledger/zzlaws_clearing_b1.FnAllDigitsCountsDigits", spec := "fnAllDigitsCountsDigits", apart := false }
def FnAllDigitsCountsDigitsSaid : Prop := fnAllDigitsCountsDigitsRow.holds Try.pinned (OpenSpec.ofChange fnAllDigitsCountsDigitsSpec)

/-- ITS FALSE NEIGHBOUR: 'it returns false'. Refute it at one input. -/
def fnAllDigitsCountsDigitsWrong : ChangeSpec := { name := "fnAllDigitsCountsDigits", fn := fun _ => fun
  | [d] => { results := [.lit (.bool false)], args := [d] }
  | _ => none }
def FnAllDigitsCountsDigitsWrongFalsely : Prop := fnAllDigitsCountsDigitsRow.holds Try.pinned (OpenSpec.ofChange fnAllDigitsCountsDigitsWrong)

/-- 'zzlaws_clearing_b1.FnDirectionMirrorsUnderNegation': WHATEVER THE INPUT: true; the input reads as it did. -/
def fnDirectionMirrorsUnderNegationSpec : ChangeSpec := { name := "fnDirectionMirrorsUnderNegation", fn := fun _ => fun
  | [d1, d2, d3, d4] => { results := [.lit (.bool true)], args := [d1, d2, d3, d4] }
  | _ => none }
def fnDirectionMirrorsUnderNegationRow : OpenClaim := { program := "qxb6605577a", sum := "4cd91ba7c5f39862443593ffd3895a4364a6f09c9da8c78fa46abc2af50c0d76", func := "example.com/troy-ledger/troy-ledger/zzlaws_clearing_b1.FnDirectionMirrorsUnderNegation", spec := "fnDirectionMirrorsUnderNegation", apart := false }
def FnDirectionMirrorsUnderNegationSaid : Prop := fnDirectionMirrorsUnderNegationRow.holds Try.pinned (OpenSpec.ofChange fnDirectionMirrorsUnderNegationSpec)

/-- ITS FALSE NEIGHBOUR: 'it returns false'. Refute it at one input. -/
def fnDirectionMirrorsUnderNegationWrong : ChangeSpec := { name := "fnDirectionMirrorsUnderNegation", fn := fun _ => fun
  | [d1, d2, d3, d4] => { results := [.lit (.bool false)], args := [d1, d2, d3, d4] }
  | _ => none }
def FnDirectionMirrorsUnderNegationWrongFalsely : Prop := fnDirectionMirrorsUnderNegationRow.holds Try.pinned (OpenSpec.ofChange fnDirectionMirrorsUnderNegationWrong)

end Rows
end Go.Proofs.Qxb6605577a
