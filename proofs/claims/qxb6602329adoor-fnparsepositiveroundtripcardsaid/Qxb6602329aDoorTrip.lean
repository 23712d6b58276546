/-
  Seat b6602329aD: the walk of the law FnParsePositiveRoundTrip, and her tied card.
-/
import Derived.Test.Qxb6602329aDoorDec
import Derived.Test.Qxb6602329aDoorFrame
import Derived.Test.Qxb6602329aDoorTie
import Derived.Test.Qxb6602329aDoorCards
import Derived.SevenTiedAt
namespace Go.Proofs.Qxb6602329aDoor
open Go.Shelf Go.RowKit

set_option maxHeartbeats 400000 in
theorem trip_low (n : Int) (w : World) (h : n < 1) : Calls Tryd.prog 5 #[.int .i64 n] w fun e w' => e = .returned (.bool true) ∧ Below w.heap.size w w' := by
  go_enter Tryd.func5, Tryd.ntmps5
  go_wp2
  go_ret
  exact ⟨rfl, Below.refl _ _⟩
set_option maxHeartbeats 400000 in
theorem trip_high (n : Int) (w : World) (h0 : 1 ≤ n) (h : 2147483647 < n) : Calls Tryd.prog 5 #[.int .i64 n] w fun e w' => e = .returned (.bool true) ∧ Below w.heap.size w w' := by
  go_enter Tryd.func5, Tryd.ntmps5
  go_wp2
  go_ret
  exact ⟨rfl, Below.refl _ _⟩

set_option maxHeartbeats 400000 in
theorem trip_mid (n : Nat) (p0 p1 : Value) (w : World) (h1 : 1 ≤ n) (h2 : n ≤ 2147483647) (c0 : w.cell? ⟨0, 0, none⟩ = some (.iface 61 p0)) (c1 : w.cell? ⟨1, 0, none⟩ = some (.iface 61 p1)) :
    Calls Tryd.prog 5 #[.int .i64 n] w fun e w' => e = .returned (.bool true) ∧ Below w.heap.size w w' := by
  have hdec := decimal_any n w h1 h2
  go_enter Tryd.func5, Tryd.ntmps5
  go_wp2_with fail
  refine hdec.mono ?_
  rintro e w1 ⟨⟨ds, rfl, hv, hd, hl⟩, hb⟩
  have e := Pp.why_ok ds hd (by omega) (by omega)
  have hz := zz_any ⟨ds.toArray⟩ p0 p1 w1 (by show ds.toArray.size ≤ _; simp; omega) (below_cell hb c0) (below_cell hb c1)
  have hds : (⟨ds.toArray⟩ : ByteArray).data.toList = ds := by simp
  rw [hds, e.1, e.2, hv] at hz
  clear e hds hv hd hl hdec c0 c1
  go_wp2_with fail
  refine hz.mono ?_
  rintro e w2 ⟨rfl, hb2⟩
  clear hz
  go_wp2
  go_ret
  exact ⟨rfl, below_up hb hb2⟩

theorem trip_walk : WalkI 5 := by
  intro n w p0 p1 _ c0 c1
  by_cases h1 : n < 1
  · exact trip_low n w h1
  · by_cases h2 : 2147483647 < n
    · exact trip_high n w (by omega) h2
    · obtain ⟨k, rfl⟩ := Int.eq_ofNat_of_zero_le (show 0 ≤ n by omega)
      exact trip_mid k p0 p1 w (by omega) (by omega) c0 c1

theorem trip_proved : Rows.FnParsePositiveRoundTripCardSaid :=
  Claim7.holds_tied_plain_at .later [] [.data, .data, .data, .data, .sentinel, .sentinel, .pinned] true (true, "0f6e8f10e1135accce4fe20d1dd653a62161a6318d2bb0ed09c36e94813227c3") true
    (rowI trip_walk) (fun _ h => by cases h) (by kernel_rfl) (fun _ h => by cases h) fnParsePositiveRoundTrip_row_tie rfl ⟨rfl, rfl⟩ (by kernel_rfl) rfl
    (fun f fn hf hfn => by
      obtain rfl : f = 5 := Option.some.inj ((show Tryd.prog.funcNamed Rows.fnParsePositiveRoundTripRow.func = some 5 by kernel_rfl).symm.trans hf) |>.symm
      obtain rfl : fn = Tryd.f5 := (Option.some.inj (Tryd.func5.symm.trans hfn)).symm
      exact ⟨by kernel_rfl, fun j t ht => by
        rw [Tryd.params5] at ht
        have hm : t ∈ [3] := by simpa using Array.mem_of_getElem? ht
        have hall : ([3].all fun u => !Tryd.prog.wantsStandIn u) = true := by kernel_rfl
        exact (show Tryd.prog.wantsStandIn t = false by simpa using List.all_eq_true.1 hall t hm)⟩)
    (by kernel_rfl)
end Go.Proofs.Qxb6602329aDoor
