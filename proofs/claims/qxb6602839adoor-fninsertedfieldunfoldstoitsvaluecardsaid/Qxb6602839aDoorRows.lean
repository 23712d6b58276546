/-
  NARROWER THAN 'FOR EVERY INPUT', by the rows' own cells (each row's printed sentence says how): FnUnfoldMatchesByteAutomaton: laid · FnUnfoldIgnoresAFinalLineEnd: laid · FnInsertedFieldUnfoldsToItsValue: laid.
  DERIVED. THE GIVEN ROWS OF THIS SEAT. 3 by the template 'for every input the law returns true; each argument reads behind the call as it read before'; 0 by the template 'total and deterministic' (their statements: Qxb6602839aDoorTotals.lean).
  GIVEN WITH THE SEED: the statements are not yours to turn. If you find one false, say at which input.
  Laid BY PROGRAM, IN A SANDBOX (cutbox-rows.mjs): the forced cells as the released guide's own fill.sh prints them over the translation 27a16e64287e172a… (all of the seat's roots in one cut). By AI agents, Wed Nov 11 2026. No macro, syntax, notation, axiom, sorry.
-/
import Derived.Test.Qxb6602839aDoorChecked
import GoSem.PinnedTables
import GoSem.Claim
import GoSem.ClaimJoined
import GoSem.ClaimMapViews
import Derived.JoinedTies
import Derived.KernelRfl
namespace Go.Proofs.Qxb6602839aDoor
/- THE CELL 'sum', in the pinned program and in every row, IS THE sha256 OF THE DUMP (.gsa) THAT Qxb6602839aDoorProg.lean LOADS. Nothing in Lean hashes anything: it is a label: what it is worth is what the hold of that sum in a sandbox is worth. -/
noncomputable def Tryd.pinned : Pinned := { name := "qxb6602839adoor", sum := "27a16e64287e172a370c50fbb2d0050988725c91ce92d88378cee079e4a141c6", checked := Tryd.checked }
namespace Rows
def none {H : Type} : Left H := { results := [], args := [] }

/- WHAT THE LISTED PACKAGE-LEVEL VARIABLES READ AS WHEN THE CALL BEGINS. Each datum BY PROGRAM (the guide's laid-datum.mjs) off the statement by which the dump's own 'gosem.cut.vars' lays the variable. In a bare row this is a premise. The card (Qxb6602839aDoorCards.lean) ties it to the program's text. -/
def laid_unicode_utf8_acceptRanges {H : Type} : DataW H := .agg [.agg [.lit (.int .u8 128), .lit (.int .u8 191)], .agg [.lit (.int .u8 160), .lit (.int .u8 191)], .agg [.lit (.int .u8 128), .lit (.int .u8 159)], .agg [.lit (.int .u8 144), .lit (.int .u8 191)], .agg [.lit (.int .u8 128), .lit (.int .u8 143)], .agg [.lit (.int .u8 0), .lit (.int .u8 0)], .agg [.lit (.int .u8 0), .lit (.int .u8 0)], .agg [.lit (.int .u8 0), .lit (.int .u8 0)], .agg [.lit (.int .u8 0), .lit (.int .u8 0)], .agg [.lit (.int .u8 0), .lit (.int .u8 0)], .agg [.lit (.int .u8 0), .lit (.int .u8 0)], .agg [.lit (.int .u8 0), .lit (.int .u8 0)], .agg [.lit (.int .u8 0), .lit (.int .u8 0)], .agg [.lit (.int .u8 0), .lit (.int .u8 0)], .agg [.lit (.int .u8 0), .lit (.int .u8 0)], .agg [.lit (.int .u8 0), .lit (.int .u8 0)]]
/-- One of Go's own tables, pinned by name: the form's constant. -/
def laid_unicode_utf8_first : DataW Unit := Go.Pinned.utf8First

/-- 'zzlaws_root_b1.FnUnfoldMatchesByteAutomaton': WHATEVER THE INPUT: true; the input reads as it did. -/
def fnUnfoldMatchesByteAutomatonSpec : ChangeSpec := { name := "fnUnfoldMatchesByteAutomaton", fn := fun _ => fun
  | [d] => { results := [.lit (.bool true)], args := [d] }
  | _ => none }
def fnUnfoldMatchesByteAutomatonRow : OpenClaim := { program := "qxb6602839adoor", sum := "27a16e64287e172a370c50fbb2d0050988725c91ce92d88378cee079e4a141c6", func := "example.com/pennant/pennant/zzlaws_root_b1.FnUnfoldMatchesByteAutomaton", spec := "fnUnfoldMatchesByteAutomaton", inPlace := ["internal/bytealg.IndexByte", "internal/bytealg.Index", "internal/abi.NoEscape", "internal/bytealg.MakeNoZero", "internal/bytealg.IndexByteString", "internal/bytealg.IndexString"], named := ["internal/bytealg.MaxLen", "unicode/utf8.first", "unicode/utf8.acceptRanges"], apart := false, laid := [("unicode/utf8.acceptRanges", laid_unicode_utf8_acceptRanges), ("unicode/utf8.first", laid_unicode_utf8_first)] }
def FnUnfoldMatchesByteAutomatonSaid : Prop := fnUnfoldMatchesByteAutomatonRow.holds Tryd.pinned (OpenSpec.ofChange fnUnfoldMatchesByteAutomatonSpec)

/-- ITS FALSE NEIGHBOUR: 'it returns false'. Refute it at one input. -/
def fnUnfoldMatchesByteAutomatonWrong : ChangeSpec := { name := "fnUnfoldMatchesByteAutomaton", fn := fun _ => fun
  | [d] => { results := [.lit (.bool false)], args := [d] }
  | _ => none }
def FnUnfoldMatchesByteAutomatonWrongFalsely : Prop := fnUnfoldMatchesByteAutomatonRow.holds Tryd.pinned (OpenSpec.ofChange fnUnfoldMatchesByteAutomatonWrong)

/-- 'zzlaws_root_b1.FnUnfoldIgnoresAFinalLineEnd': WHATEVER THE INPUT: true; the input reads as it did. -/
def fnUnfoldIgnoresAFinalLineEndSpec : ChangeSpec := { name := "fnUnfoldIgnoresAFinalLineEnd", fn := fun _ => fun
  | [d] => { results := [.lit (.bool true)], args := [d] }
  | _ => none }
def fnUnfoldIgnoresAFinalLineEndRow : OpenClaim := { program := "qxb6602839adoor", sum := "27a16e64287e172a370c50fbb2d0050988725c91ce92d88378cee079e4a141c6", func := "example.com/pennant/pennant/zzlaws_root_b1.FnUnfoldIgnoresAFinalLineEnd", spec := "fnUnfoldIgnoresAFinalLineEnd", inPlace := ["internal/bytealg.IndexByte", "internal/bytealg.Index", "internal/abi.NoEscape", "internal/bytealg.MakeNoZero", "internal/bytealg.IndexByteString", "internal/bytealg.IndexString"], named := ["internal/bytealg.MaxLen", "unicode/utf8.first", "unicode/utf8.acceptRanges"], apart := false, laid := [("unicode/utf8.acceptRanges", laid_unicode_utf8_acceptRanges), ("unicode/utf8.first", laid_unicode_utf8_first)] }
def FnUnfoldIgnoresAFinalLineEndSaid : Prop := fnUnfoldIgnoresAFinalLineEndRow.holds Tryd.pinned (OpenSpec.ofChange fnUnfoldIgnoresAFinalLineEndSpec)

/-- ITS FALSE NEIGHBOUR: 'it returns false'. Refute it at one input. -/
def fnUnfoldIgnoresAFinalLineEndWrong : ChangeSpec := { name := "fnUnfoldIgnoresAFinalLineEnd", fn := fun _ => fun
  | [d] => { results := [.lit (.bool false)], args := [d] }
  | _ => none }
def FnUnfoldIgnoresAFinalLineEndWrongFalsely : Prop := fnUnfoldIgnoresAFinalLineEndRow.holds Tryd.pinned (OpenSpec.ofChange fnUnfoldIgnoresAFinalLineEndWrong)

/-- 'zzlaws_root_b1.FnInsertedFieldUnfoldsToItsValue': WHATEVER THE INPUT: true; the input reads as it did. -/
def fnInsertedFieldUnfoldsToItsValueSpec : ChangeSpec := { name := "fnInsertedFieldUnfoldsToItsValue", fn := fun _ => fun
  | [d1, d2, d3, d4, d5, d6] => { results := [.lit (.bool true)], args := [d1, d2, d3, d4, d5, d6] }
  | _ => none }
def fnInsertedFieldUnfoldsToItsValueRow : OpenClaim := { program := "qxb6602839adoor", sum := "27a16e64287e172a370c50fbb2d0050988725c91ce92d88378cee079e4a141c6", func := "example.com/pennant/pennant/zzlaws_root_b1.FnInsertedFieldUnfoldsToItsValue", spec := "fnInsertedFieldUnfoldsToItsValue", inPlace := ["internal/bytealg.IndexByte", "internal/bytealg.Index", "internal/abi.NoEscape", "internal/bytealg.MakeNoZero", "internal/bytealg.IndexByteString", "internal/bytealg.IndexString"], named := ["internal/bytealg.MaxLen", "unicode/utf8.first", "unicode/utf8.acceptRanges"], apart := false, laid := [("unicode/utf8.acceptRanges", laid_unicode_utf8_acceptRanges), ("unicode/utf8.first", laid_unicode_utf8_first)] }
def FnInsertedFieldUnfoldsToItsValueSaid : Prop := fnInsertedFieldUnfoldsToItsValueRow.holds Tryd.pinned (OpenSpec.ofChange fnInsertedFieldUnfoldsToItsValueSpec)

/-- ITS FALSE NEIGHBOUR: 'it returns false'. Refute it at one input. -/
def fnInsertedFieldUnfoldsToItsValueWrong : ChangeSpec := { name := "fnInsertedFieldUnfoldsToItsValue", fn := fun _ => fun
  | [d1, d2, d3, d4, d5, d6] => { results := [.lit (.bool false)], args := [d1, d2, d3, d4, d5, d6] }
  | _ => none }
def FnInsertedFieldUnfoldsToItsValueWrongFalsely : Prop := fnInsertedFieldUnfoldsToItsValueRow.holds Tryd.pinned (OpenSpec.ofChange fnInsertedFieldUnfoldsToItsValueWrong)

end Rows
end Go.Proofs.Qxb6602839aDoor
