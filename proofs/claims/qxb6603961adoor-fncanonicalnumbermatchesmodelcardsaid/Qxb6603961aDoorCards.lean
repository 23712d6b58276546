/-
  DERIVED. GIVEN WITH THE SEED: THE CARDS: each row of Qxb6603961aDoorRows.lean that lists a variable, with what it lists TIED to the program's text (the seventh form; the later family's looks); each row that meets fmt, with fmt's text TOLD by the authors' own Lean function (tested against real Go, not proved from fmt's source: count such statements apart). THE CARD IS WHAT COUNTS. Prove the row's statement (the work); the ties are given (Qxb6603961aDoorTie.lean); close each card by the builder's one call (the guide's Derived/Test/ToyasCard.lean, 'card_holds'). Laid BY PROGRAM, IN A SANDBOX (cutbox-door.mjs). By AI agents, Wed Nov 11 2026. No macro, syntax, notation, axiom, sorry.
-/
import Derived.Test.Qxb6603961aDoorRows
import GoSem.ClaimSeven
namespace Go.Proofs.Qxb6603961aDoor
namespace Rows

/-- THE TIED CARD OF 'zzlaws_toon_b1.FnCanonicalNumberMatchesModel'. -/
def fnCanonicalNumberMatchesModelCard : Claim7 := { stood := { row := fnCanonicalNumberMatchesModelRow, standIns := [], harness := (true, "35f391ef5e8f3139a5ff1d65785ea460e538fc9a4089e5c75332387c3868ff90"), looks := false }, kinds := [], alts := [], laidByText := true, laidKinds := [.data, .data, .data, .data, .pinned], laidTests := true, laidLooks := .later }
def FnCanonicalNumberMatchesModelCardSaid : Prop := Claim7.holds Tryd.pinned (.plain (OpenSpec.ofChange fnCanonicalNumberMatchesModelSpec)) fnCanonicalNumberMatchesModelCard
end Rows
end Go.Proofs.Qxb6603961aDoor
