/-
  Seat b6603102aD: the tied card of FnPlainKeyAcceptsUnderscoreBeforeAnyIdentifierTail.
-/
import Derived.Test.Qxb6603102aDoorLaw
import Derived.Test.Qxb6603102aDoorTie
import Derived.Test.Qxb6603102aDoorCards
import Derived.SevenTiedAt
namespace Go.Proofs.Qxb6603102aDoor
open Go

theorem plainKey_proved : Rows.FnPlainKeyAcceptsUnderscoreBeforeAnyIdentifierTailCardSaid :=
  Claim7.holds_tied_plain_at .later [] Rows.fnPlainKeyAcceptsUnderscoreBeforeAnyIdentifierTailCard.laidKinds true Rows.fnPlainKeyAcceptsUnderscoreBeforeAnyIdentifierTailCard.stood.harness Rows.fnPlainKeyAcceptsUnderscoreBeforeAnyIdentifierTailCard.stood.looks
    (rowS law_walk) (fun _ h => by cases h) (by kernel_rfl) (fun _ h => by cases h) fnPlainKeyAcceptsUnderscoreBeforeAnyIdentifierTail_row_tie rfl ⟨rfl, rfl⟩ (by kernel_rfl) rfl
    (fun f fn hf hfn => by
      obtain rfl : f = 4 := Option.some.inj ((show Tryd.prog.funcNamed Rows.fnPlainKeyAcceptsUnderscoreBeforeAnyIdentifierTailRow.func = some 4 by kernel_rfl).symm.trans hf) |>.symm
      obtain rfl : fn = Tryd.f4 := (Option.some.inj (Tryd.func4.symm.trans hfn)).symm
      exact ⟨by kernel_rfl, fun j t ht => by
        rw [Tryd.params4] at ht
        have hm : t ∈ [9] := by simpa using Array.mem_of_getElem? ht
        have hall : ([9].all fun u => !Tryd.prog.wantsStandIn u) = true := by kernel_rfl
        exact (show Tryd.prog.wantsStandIn t = false by simpa using List.all_eq_true.1 hall t hm)⟩)
    (by kernel_rfl)
end Go.Proofs.Qxb6603102aDoor
