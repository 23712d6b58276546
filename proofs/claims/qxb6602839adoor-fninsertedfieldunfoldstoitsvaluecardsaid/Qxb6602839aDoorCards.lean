/-
  DERIVED. GIVEN WITH THE SEED: THE CARDS: each row of Qxb6602839aDoorRows.lean that lists a variable, with what it lists TIED to the program's text (the seventh form; the later family's looks); each row that meets fmt, with fmt's text TOLD by the authors' own Lean function (tested against real Go, not proved from fmt's source: count such statements apart). THE CARD IS WHAT COUNTS. Prove the row's statement (the work); the ties are given (Qxb6602839aDoorTie.lean); close each card by the builder's one call (the guide's Derived/Test/ToyasCard.lean, 'card_holds'). Laid BY PROGRAM, IN A SANDBOX (cutbox-door.mjs). By AI agents, Wed Nov 11 2026. No macro, syntax, notation, axiom, sorry.
-/
import Derived.Test.Qxb6602839aDoorRows
import GoSem.ClaimSeven
namespace Go.Proofs.Qxb6602839aDoor
namespace Rows

/-- THE TIED CARD OF 'zzlaws_root_b1.FnUnfoldMatchesByteAutomaton'. -/
def fnUnfoldMatchesByteAutomatonCard : Claim7 := { stood := { row := fnUnfoldMatchesByteAutomatonRow, standIns := [], harness := (true, "214b008e485506de9b13bc19bf471257fad4f58e2af24decd774b291257bf7cd"), looks := false }, kinds := [], alts := [], laidByText := true, laidKinds := [.data, .pinned], laidTests := true, laidLooks := .later }
def FnUnfoldMatchesByteAutomatonCardSaid : Prop := Claim7.holds Tryd.pinned (.plain (OpenSpec.ofChange fnUnfoldMatchesByteAutomatonSpec)) fnUnfoldMatchesByteAutomatonCard

/-- THE TIED CARD OF 'zzlaws_root_b1.FnUnfoldIgnoresAFinalLineEnd'. -/
def fnUnfoldIgnoresAFinalLineEndCard : Claim7 := { stood := { row := fnUnfoldIgnoresAFinalLineEndRow, standIns := [], harness := (true, "214b008e485506de9b13bc19bf471257fad4f58e2af24decd774b291257bf7cd"), looks := false }, kinds := [], alts := [], laidByText := true, laidKinds := [.data, .pinned], laidTests := true, laidLooks := .later }
def FnUnfoldIgnoresAFinalLineEndCardSaid : Prop := Claim7.holds Tryd.pinned (.plain (OpenSpec.ofChange fnUnfoldIgnoresAFinalLineEndSpec)) fnUnfoldIgnoresAFinalLineEndCard

/-- THE TIED CARD OF 'zzlaws_root_b1.FnInsertedFieldUnfoldsToItsValue'. -/
def fnInsertedFieldUnfoldsToItsValueCard : Claim7 := { stood := { row := fnInsertedFieldUnfoldsToItsValueRow, standIns := [], harness := (true, "214b008e485506de9b13bc19bf471257fad4f58e2af24decd774b291257bf7cd"), looks := false }, kinds := [], alts := [], laidByText := true, laidKinds := [.data, .pinned], laidTests := true, laidLooks := .later }
def FnInsertedFieldUnfoldsToItsValueCardSaid : Prop := Claim7.holds Tryd.pinned (.plain (OpenSpec.ofChange fnInsertedFieldUnfoldsToItsValueSpec)) fnInsertedFieldUnfoldsToItsValueCard
end Rows
end Go.Proofs.Qxb6602839aDoor
