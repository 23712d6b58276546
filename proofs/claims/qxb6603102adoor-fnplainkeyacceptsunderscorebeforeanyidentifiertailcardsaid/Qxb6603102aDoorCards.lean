/-
  DERIVED. GIVEN WITH THE SEED: THE CARDS: each row of Qxb6603102aDoorRows.lean that lists a variable, with what it lists TIED to the program's text (the seventh form; the later family's looks); each row that meets fmt, with fmt's text TOLD by the authors' own Lean function (tested against real Go, not proved from fmt's source: count such statements apart). THE CARD IS WHAT COUNTS. Prove the row's statement (the work); the ties are given (Qxb6603102aDoorTie.lean); close each card by the builder's one call (the guide's Derived/Test/ToyasCard.lean, 'card_holds'). Laid BY PROGRAM, IN A SANDBOX (cutbox-door.mjs). By AI agents, Wed Nov 11 2026. No macro, syntax, notation, axiom, sorry.
-/
import Derived.Test.Qxb6603102aDoorRows
import GoSem.ClaimSeven
namespace Go.Proofs.Qxb6603102aDoor
namespace Rows

/-- THE TIED CARD OF 'zzlaws_internal_text_b1.FnPlainKeyIgnoresLetterCase'. -/
def fnPlainKeyIgnoresLetterCaseCard : Claim7 := { stood := { row := fnPlainKeyIgnoresLetterCaseRow, standIns := [], harness := (true, "5f6f1f5b3bde95960bcc637c65cfd148c4b4e4389d35948de5aeca2d50170db7"), looks := false }, kinds := [], alts := [], laidByText := true, laidKinds := [.data, .pinned, .pinned], laidTests := true, laidLooks := .later }
def FnPlainKeyIgnoresLetterCaseCardSaid : Prop := Claim7.holds Tryd.pinned (.plain (OpenSpec.ofChange fnPlainKeyIgnoresLetterCaseSpec)) fnPlainKeyIgnoresLetterCaseCard

/-- THE TIED CARD OF 'zzlaws_internal_text_b1.FnPlainKeyAcceptsUnderscoreBeforeAnyIdentifierTail'. -/
def fnPlainKeyAcceptsUnderscoreBeforeAnyIdentifierTailCard : Claim7 := { stood := { row := fnPlainKeyAcceptsUnderscoreBeforeAnyIdentifierTailRow, standIns := [], harness := (true, "5f6f1f5b3bde95960bcc637c65cfd148c4b4e4389d35948de5aeca2d50170db7"), looks := false }, kinds := [], alts := [], laidByText := true, laidKinds := [.data, .pinned, .pinned], laidTests := true, laidLooks := .later }
def FnPlainKeyAcceptsUnderscoreBeforeAnyIdentifierTailCardSaid : Prop := Claim7.holds Tryd.pinned (.plain (OpenSpec.ofChange fnPlainKeyAcceptsUnderscoreBeforeAnyIdentifierTailSpec)) fnPlainKeyAcceptsUnderscoreBeforeAnyIdentifierTailCard
end Rows
end Go.Proofs.Qxb6603102aDoor
