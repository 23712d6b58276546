/-
  Seat b6602329aD: the tied card of FnParsePositiveWhole.
-/
import Derived.Test.Qxb6602329aDoorWhole
import Derived.Test.Qxb6602329aDoorTie
import Derived.Test.Qxb6602329aDoorCards
import Derived.SevenTiedAt
namespace Go.Proofs.Qxb6602329aDoor
open Go

theorem whole_proved : Rows.FnParsePositiveWholeCardSaid :=
  Claim7.holds_tied_plain_at .later [] [.data, .data, .data, .data, .sentinel, .sentinel, .pinned] true (true, "0f6e8f10e1135accce4fe20d1dd653a62161a6318d2bb0ed09c36e94813227c3") true
    (rowS whole_walk) (fun _ h => by cases h) (by kernel_rfl) (fun _ h => by cases h) fnParsePositiveWhole_row_tie rfl ⟨rfl, rfl⟩ (by kernel_rfl) rfl
    (fun f fn hf hfn => by
      obtain rfl : f = 3 := Option.some.inj ((show Tryd.prog.funcNamed Rows.fnParsePositiveWholeRow.func = some 3 by kernel_rfl).symm.trans hf) |>.symm
      obtain rfl : fn = Tryd.f3 := (Option.some.inj (Tryd.func3.symm.trans hfn)).symm
      exact ⟨by kernel_rfl, fun j t ht => by
        rw [Tryd.params3] at ht
        have hm : t ∈ [9] := by simpa using Array.mem_of_getElem? ht
        have hall : ([9].all fun u => !Tryd.prog.wantsStandIn u) = true := by kernel_rfl
        exact (show Tryd.prog.wantsStandIn t = false by simpa using List.all_eq_true.1 hall t hm)⟩)
    (by kernel_rfl)
end Go.Proofs.Qxb6602329aDoor
