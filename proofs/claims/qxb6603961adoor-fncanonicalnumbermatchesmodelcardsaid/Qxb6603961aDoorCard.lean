/-
  Seat b6603961aD: the tied card of FnCanonicalNumberMatchesModel.
-/
import Derived.Test.Qxb6603961aDoorLaw
import Derived.Test.Qxb6603961aDoorTie
import Derived.Test.Qxb6603961aDoorCards
import Derived.SevenTiedAt
namespace Go.Proofs.Qxb6603961aDoor
open Go

theorem canonical_proved : Rows.FnCanonicalNumberMatchesModelCardSaid :=
  Claim7.holds_tied_plain_at .later [] Rows.fnCanonicalNumberMatchesModelCard.laidKinds true Rows.fnCanonicalNumberMatchesModelCard.stood.harness Rows.fnCanonicalNumberMatchesModelCard.stood.looks
    (rowS law_walk) (fun _ h => by cases h) (by kernel_rfl) (fun _ h => by cases h) fnCanonicalNumberMatchesModel_row_tie rfl ⟨rfl, rfl⟩ (by kernel_rfl) rfl
    (fun f fn hf hfn => by
      obtain rfl : f = 3 := Option.some.inj ((show Tryd.prog.funcNamed Rows.fnCanonicalNumberMatchesModelRow.func = some 3 by kernel_rfl).symm.trans hf) |>.symm
      obtain rfl : fn = Tryd.f3 := (Option.some.inj (Tryd.func3.symm.trans hfn)).symm
      exact ⟨by kernel_rfl, fun j t ht => by
        rw [Tryd.params3] at ht
        have hm : t ∈ [9] := by simpa using Array.mem_of_getElem? ht
        have hall : ([9].all fun u => !Tryd.prog.wantsStandIn u) = true := by kernel_rfl
        exact (show Tryd.prog.wantsStandIn t = false by simpa using List.all_eq_true.1 hall t hm)⟩)
    (by kernel_rfl)
end Go.Proofs.Qxb6603961aDoor
