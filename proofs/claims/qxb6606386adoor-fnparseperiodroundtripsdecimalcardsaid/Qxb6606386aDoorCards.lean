/-
  DERIVED. GIVEN WITH THE SEED: THE CARDS: each row of Qxb6606386aDoorRows.lean that lists a variable, with what it lists TIED to the program's text (the seventh form; the later family's looks); each row that meets fmt, with fmt's text TOLD by the authors' own Lean function (tested against real Go, not proved from fmt's source: count such statements apart). THE CARD IS WHAT COUNTS. Prove the row's statement (the work); the ties are given (Qxb6606386aDoorTie.lean); close each card by the builder's one call (the guide's Derived/Test/ToyasCard.lean, 'card_holds'). Laid BY PROGRAM, IN A SANDBOX (cutbox-door.mjs). By AI agents, Wed Nov 11 2026. No macro, syntax, notation, axiom, sorry.
-/
import Derived.Test.Qxb6606386aDoorRows
import GoSem.ClaimSeven
namespace Go.Proofs.Qxb6606386aDoor
namespace Rows

/-- THE TIED CARD OF 'zzlaws_totp_b1.FnParsePeriodRoundTripsDecimal'. -/
def fnParsePeriodRoundTripsDecimalCard : Claim7 := { stood := { row := fnParsePeriodRoundTripsDecimalRow, standIns := [], harness := (true, "1def69d53335b11c30fd7fae65057eac045b057f9876198216e63d15ce070624"), looks := true }, kinds := [], alts := [], laidByText := true, laidKinds := [.data, .data, .data, .sentinel, .sentinel], laidTests := true, laidLooks := .later }
def FnParsePeriodRoundTripsDecimalCardSaid : Prop := Claim7.holds Tryd.pinned (.plain (OpenSpec.ofChange fnParsePeriodRoundTripsDecimalSpec)) fnParsePeriodRoundTripsDecimalCard

/-- THE TIED CARD OF 'zzlaws_totp_b1.FnQueryValueMatchesPairScanModel'. -/
def fnQueryValueMatchesPairScanModelCard : Claim7 := { stood := { row := fnQueryValueMatchesPairScanModelRow, standIns := [], harness := (true, "1def69d53335b11c30fd7fae65057eac045b057f9876198216e63d15ce070624"), looks := true }, kinds := [], alts := [], laidByText := true, laidKinds := [.data, .data, .data, .data, .sentinel, .sentinel, .pinned], laidTests := true, laidLooks := .later }
def FnQueryValueMatchesPairScanModelCardSaid : Prop := Claim7.holds Tryd.pinned (.plain (OpenSpec.ofChange fnQueryValueMatchesPairScanModelSpec)) fnQueryValueMatchesPairScanModelCard

/-- THE TIED CARD OF 'zzlaws_totp_b1.FnQueryValueFindsFirstEncodedPair'. -/
def fnQueryValueFindsFirstEncodedPairCard : Claim7 := { stood := { row := fnQueryValueFindsFirstEncodedPairRow, standIns := [], harness := (true, "1def69d53335b11c30fd7fae65057eac045b057f9876198216e63d15ce070624"), looks := true }, kinds := [], alts := [], laidByText := true, laidKinds := [.data, .data, .data, .data, .sentinel, .sentinel, .pinned], laidTests := true, laidLooks := .later }
def FnQueryValueFindsFirstEncodedPairCardSaid : Prop := Claim7.holds Tryd.pinned (.plain (OpenSpec.ofChange fnQueryValueFindsFirstEncodedPairSpec)) fnQueryValueFindsFirstEncodedPairCard
end Rows
end Go.Proofs.Qxb6606386aDoor
