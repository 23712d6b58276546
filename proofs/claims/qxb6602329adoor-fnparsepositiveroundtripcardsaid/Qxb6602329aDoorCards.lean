/-
  DERIVED. GIVEN WITH THE SEED: THE CARDS: each row of Qxb6602329aDoorRows.lean that lists a variable, with what it lists TIED to the program's text (the seventh form; the later family's looks); each row that meets fmt, with fmt's text TOLD by the authors' own Lean function (tested against real Go, not proved from fmt's source: count such statements apart). THE CARD IS WHAT COUNTS. Prove the row's statement (the work); the ties are given (Qxb6602329aDoorTie.lean); close each card by the builder's one call (the guide's Derived/Test/ToyasCard.lean, 'card_holds'). Laid BY PROGRAM, IN A SANDBOX (cutbox-door.mjs). By AI agents, Wed Nov 11 2026. No macro, syntax, notation, axiom, sorry.
-/
import Derived.Test.Qxb6602329aDoorRows
import GoSem.ClaimSeven
namespace Go.Proofs.Qxb6602329aDoor
namespace Rows

/-- THE TIED CARD OF 'zzlaws_recur_b1.FnParsePositiveWhole'. -/
def fnParsePositiveWholeCard : Claim7 := { stood := { row := fnParsePositiveWholeRow, standIns := [], harness := (true, "0f6e8f10e1135accce4fe20d1dd653a62161a6318d2bb0ed09c36e94813227c3"), looks := true }, kinds := [], alts := [], laidByText := true, laidKinds := [.data, .data, .data, .data, .sentinel, .sentinel, .pinned], laidTests := true, laidLooks := .later }
def FnParsePositiveWholeCardSaid : Prop := Claim7.holds Tryd.pinned (.plain (OpenSpec.ofChange fnParsePositiveWholeSpec)) fnParsePositiveWholeCard

/-- THE TIED CARD OF 'zzlaws_recur_b1.FnParsePositiveLeadingZero'. -/
def fnParsePositiveLeadingZeroCard : Claim7 := { stood := { row := fnParsePositiveLeadingZeroRow, standIns := [], harness := (true, "0f6e8f10e1135accce4fe20d1dd653a62161a6318d2bb0ed09c36e94813227c3"), looks := true }, kinds := [], alts := [], laidByText := true, laidKinds := [.data, .data, .data, .data, .sentinel, .sentinel, .pinned], laidTests := true, laidLooks := .later }
def FnParsePositiveLeadingZeroCardSaid : Prop := Claim7.holds Tryd.pinned (.plain (OpenSpec.ofChange fnParsePositiveLeadingZeroSpec)) fnParsePositiveLeadingZeroCard

/-- THE TIED CARD OF 'zzlaws_recur_b1.FnParsePositiveRoundTrip'. -/
def fnParsePositiveRoundTripCard : Claim7 := { stood := { row := fnParsePositiveRoundTripRow, standIns := [], harness := (true, "0f6e8f10e1135accce4fe20d1dd653a62161a6318d2bb0ed09c36e94813227c3"), looks := true }, kinds := [], alts := [], laidByText := true, laidKinds := [.data, .data, .data, .data, .sentinel, .sentinel, .pinned], laidTests := true, laidLooks := .later }
def FnParsePositiveRoundTripCardSaid : Prop := Claim7.holds Tryd.pinned (.plain (OpenSpec.ofChange fnParsePositiveRoundTripSpec)) fnParsePositiveRoundTripCard
end Rows
end Go.Proofs.Qxb6602329aDoor
