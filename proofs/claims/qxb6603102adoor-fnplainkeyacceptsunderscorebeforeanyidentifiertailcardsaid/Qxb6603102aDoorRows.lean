/-
  NARROWER THAN 'FOR EVERY INPUT', by the rows' own cells (each row's printed sentence says how): FnPlainKeyIgnoresLetterCase: laid · FnPlainKeyAcceptsUnderscoreBeforeAnyIdentifierTail: laid.
  DERIVED. THE GIVEN ROWS OF THIS SEAT. 2 by the template 'for every input the law returns true; each argument reads behind the call as it read before'; 0 by the template 'total and deterministic' (their statements: Qxb6603102aDoorTotals.lean).
  GIVEN WITH THE SEED: the statements are not yours to turn. If you find one false, say at which input.
  Laid BY PROGRAM, IN A SANDBOX (cutbox-rows.mjs): the forced cells as the released guide's own fill.sh prints them over the translation 6755eb708248d728… (all of the seat's roots in one cut). By AI agents, Wed Nov 11 2026. No macro, syntax, notation, axiom, sorry.
-/
import Derived.Test.Qxb6603102aDoorChecked
import GoSem.PinnedTables
import GoSem.Claim
import GoSem.ClaimJoined
import GoSem.ClaimMapViews
import Derived.JoinedTies
import Derived.KernelRfl
namespace Go.Proofs.Qxb6603102aDoor
/- THE CELL 'sum', in the pinned program and in every row, IS THE sha256 OF THE DUMP (.gsa) THAT Qxb6603102aDoorProg.lean LOADS. Nothing in Lean hashes anything: it is a label: what it is worth is what the hold of that sum in a sandbox is worth. -/
noncomputable def Tryd.pinned : Pinned := { name := "qxb6603102adoor", sum := "6755eb708248d728a0aff68235dfc4c561092c4fac4b53a7cf13c6f4efccec75", checked := Tryd.checked }
namespace Rows
def none {H : Type} : Left H := { results := [], args := [] }

/- WHAT THE LISTED PACKAGE-LEVEL VARIABLES READ AS WHEN THE CALL BEGINS. Each datum BY PROGRAM (the guide's laid-datum.mjs) off the statement by which the dump's own 'gosem.cut.vars' lays the variable. In a bare row this is a premise. The card (Qxb6603102aDoorCards.lean) ties it to the program's text. -/
def laid_unicode_utf8_acceptRanges {H : Type} : DataW H := .agg [.agg [.lit (.int .u8 128), .lit (.int .u8 191)], .agg [.lit (.int .u8 160), .lit (.int .u8 191)], .agg [.lit (.int .u8 128), .lit (.int .u8 159)], .agg [.lit (.int .u8 144), .lit (.int .u8 191)], .agg [.lit (.int .u8 128), .lit (.int .u8 143)], .agg [.lit (.int .u8 0), .lit (.int .u8 0)], .agg [.lit (.int .u8 0), .lit (.int .u8 0)], .agg [.lit (.int .u8 0), .lit (.int .u8 0)], .agg [.lit (.int .u8 0), .lit (.int .u8 0)], .agg [.lit (.int .u8 0), .lit (.int .u8 0)], .agg [.lit (.int .u8 0), .lit (.int .u8 0)], .agg [.lit (.int .u8 0), .lit (.int .u8 0)], .agg [.lit (.int .u8 0), .lit (.int .u8 0)], .agg [.lit (.int .u8 0), .lit (.int .u8 0)], .agg [.lit (.int .u8 0), .lit (.int .u8 0)], .agg [.lit (.int .u8 0), .lit (.int .u8 0)]]
/-- One of Go's own tables, pinned by name: the form's constant. -/
def laid_unicode_CaseRanges : DataW Unit := Go.Pinned.caseRanges
/-- One of Go's own tables, pinned by name: the form's constant. -/
def laid_unicode_utf8_first : DataW Unit := Go.Pinned.utf8First

/-- 'zzlaws_internal_text_b1.FnPlainKeyIgnoresLetterCase': WHATEVER THE INPUT: true; the input reads as it did. -/
def fnPlainKeyIgnoresLetterCaseSpec : ChangeSpec := { name := "fnPlainKeyIgnoresLetterCase", fn := fun _ => fun
  | [d] => { results := [.lit (.bool true)], args := [d] }
  | _ => none }
def fnPlainKeyIgnoresLetterCaseRow : OpenClaim := { program := "qxb6603102adoor", sum := "6755eb708248d728a0aff68235dfc4c561092c4fac4b53a7cf13c6f4efccec75", func := "example.com/fresnel/fresnel/zzlaws_internal_text_b1.FnPlainKeyIgnoresLetterCase", spec := "fnPlainKeyIgnoresLetterCase", inPlace := ["internal/bytealg.IndexByteString", "internal/bytealg.IndexString", "internal/abi.NoEscape", "internal/bytealg.MakeNoZero"], unfollowed := true, recurses := true, named := ["unicode/utf8.first", "unicode/utf8.acceptRanges", "unicode.CaseRanges", "internal/bytealg.MaxLen"], apart := false, laid := [("unicode/utf8.acceptRanges", laid_unicode_utf8_acceptRanges), ("unicode.CaseRanges", laid_unicode_CaseRanges), ("unicode/utf8.first", laid_unicode_utf8_first)] }
def FnPlainKeyIgnoresLetterCaseSaid : Prop := fnPlainKeyIgnoresLetterCaseRow.holds Tryd.pinned (OpenSpec.ofChange fnPlainKeyIgnoresLetterCaseSpec)

/-- ITS FALSE NEIGHBOUR: 'it returns false'. Refute it at one input. -/
def fnPlainKeyIgnoresLetterCaseWrong : ChangeSpec := { name := "fnPlainKeyIgnoresLetterCase", fn := fun _ => fun
  | [d] => { results := [.lit (.bool false)], args := [d] }
  | _ => none }
def FnPlainKeyIgnoresLetterCaseWrongFalsely : Prop := fnPlainKeyIgnoresLetterCaseRow.holds Tryd.pinned (OpenSpec.ofChange fnPlainKeyIgnoresLetterCaseWrong)

/-- 'zzlaws_internal_text_b1.FnPlainKeyAcceptsUnderscoreBeforeAnyIdentifierTail': WHATEVER THE INPUT: true; the input reads as it did. -/
def fnPlainKeyAcceptsUnderscoreBeforeAnyIdentifierTailSpec : ChangeSpec := { name := "fnPlainKeyAcceptsUnderscoreBeforeAnyIdentifierTail", fn := fun _ => fun
  | [d] => { results := [.lit (.bool true)], args := [d] }
  | _ => none }
def fnPlainKeyAcceptsUnderscoreBeforeAnyIdentifierTailRow : OpenClaim := { program := "qxb6603102adoor", sum := "6755eb708248d728a0aff68235dfc4c561092c4fac4b53a7cf13c6f4efccec75", func := "example.com/fresnel/fresnel/zzlaws_internal_text_b1.FnPlainKeyAcceptsUnderscoreBeforeAnyIdentifierTail", spec := "fnPlainKeyAcceptsUnderscoreBeforeAnyIdentifierTail", inPlace := ["internal/bytealg.IndexByteString", "internal/bytealg.IndexString", "internal/abi.NoEscape", "internal/bytealg.MakeNoZero"], unfollowed := true, recurses := true, named := ["unicode/utf8.first", "unicode/utf8.acceptRanges", "unicode.CaseRanges", "internal/bytealg.MaxLen"], apart := false, laid := [("unicode/utf8.acceptRanges", laid_unicode_utf8_acceptRanges), ("unicode.CaseRanges", laid_unicode_CaseRanges), ("unicode/utf8.first", laid_unicode_utf8_first)] }
def FnPlainKeyAcceptsUnderscoreBeforeAnyIdentifierTailSaid : Prop := fnPlainKeyAcceptsUnderscoreBeforeAnyIdentifierTailRow.holds Tryd.pinned (OpenSpec.ofChange fnPlainKeyAcceptsUnderscoreBeforeAnyIdentifierTailSpec)

/-- ITS FALSE NEIGHBOUR: 'it returns false'. Refute it at one input. -/
def fnPlainKeyAcceptsUnderscoreBeforeAnyIdentifierTailWrong : ChangeSpec := { name := "fnPlainKeyAcceptsUnderscoreBeforeAnyIdentifierTail", fn := fun _ => fun
  | [d] => { results := [.lit (.bool false)], args := [d] }
  | _ => none }
def FnPlainKeyAcceptsUnderscoreBeforeAnyIdentifierTailWrongFalsely : Prop := fnPlainKeyAcceptsUnderscoreBeforeAnyIdentifierTailRow.holds Tryd.pinned (OpenSpec.ofChange fnPlainKeyAcceptsUnderscoreBeforeAnyIdentifierTailWrong)

end Rows
end Go.Proofs.Qxb6603102aDoor
