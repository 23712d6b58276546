/-
  Seat b6602839aD: the tied card of FnUnfoldMatchesByteAutomaton.
-/
import Derived.Test.Qxb6602839aDoorLawU
import Derived.Test.Qxb6602839aDoorFrame
import Derived.Test.Qxb6602839aDoorTie
import Derived.Test.Qxb6602839aDoorCards
import Derived.SevenTiedAt
namespace Go.Proofs.Qxb6602839aDoor
open Go

theorem unfold_walk : WalkU := by
  intro m p n c l w h hn hm
  unfold maxLen at hn
  by_cases hs : n ≤ 1048576
  · exact lawU_small m p n c l w h hs hm
  · exact lawU_big p n c w (by omega) hn

theorem unfold_proved : Rows.FnUnfoldMatchesByteAutomatonCardSaid :=
  Claim7.holds_tied_plain_at .later [] Rows.fnUnfoldMatchesByteAutomatonCard.laidKinds true Rows.fnUnfoldMatchesByteAutomatonCard.stood.harness Rows.fnUnfoldMatchesByteAutomatonCard.stood.looks
    (rowU unfold_walk) (fun _ h => by cases h) (by kernel_rfl) (fun _ h => by cases h) fnUnfoldMatchesByteAutomaton_row_tie rfl ⟨rfl, rfl⟩ (by kernel_rfl) rfl
    (fun f fn hf hfn => by
      obtain rfl : f = 3 := Option.some.inj ((show Tryd.prog.funcNamed Rows.fnUnfoldMatchesByteAutomatonRow.func = some 3 by kernel_rfl).symm.trans hf) |>.symm
      obtain rfl : fn = Tryd.f3 := (Option.some.inj (Tryd.func3.symm.trans hfn)).symm
      exact ⟨by kernel_rfl, fun j t ht => by
        rw [Tryd.params3] at ht
        have hm : t ∈ [22] := by simpa using Array.mem_of_getElem? ht
        have hall : ([22].all fun u => !Tryd.prog.wantsStandIn u) = true := by kernel_rfl
        exact (show Tryd.prog.wantsStandIn t = false by simpa using List.all_eq_true.1 hall t hm)⟩)
    (by kernel_rfl)
end Go.Proofs.Qxb6602839aDoor
