/-
  Seat b6602839aD: the walk of the law FnUnfoldMatchesByteAutomaton.
-/
import Derived.Test.Qxb6602839aDoorModel
namespace Go.Proofs.Qxb6602839aDoor
open Go.Shelf Go.RowKit

set_option maxHeartbeats 400000 in
theorem bytes6_small (p : Option Addr) (n c : Nat) (w : World) (h : n ≤ 1048576) : Calls Tryd.prog 6 #[.slice p n c] w fun e w' => e = .returned (.bool true) ∧ w' = w := by
  go_enter Tryd.func6, Tryd.ntmps6
  go_wp2
  go_ret
  exact ⟨rfl, rfl⟩
set_option maxHeartbeats 400000 in
theorem bytes6_big (p : Option Addr) (n c : Nat) (w : World) (h : 1048576 < n) (hm : n ≤ 9223372036854775807) : Calls Tryd.prog 6 #[.slice p n c] w fun e w' => e = .returned (.bool false) ∧ w' = w := by
  go_enter Tryd.func6, Tryd.ntmps6
  go_wp2
  go_ret
  exact ⟨rfl, rfl⟩

set_option maxHeartbeats 400000 in
theorem lawU_big (p : Option Addr) (n c : Nat) (w : World) (h : 1048576 < n) (hm : n ≤ 9223372036854775807) : Calls Tryd.prog 3 #[.slice p n c] w fun e w' => e = .returned (.bool true) ∧ Below w.heap.size w w' := by
  have hb := fun w => bytes6_big p n c w h hm
  go_enter Tryd.func3, Tryd.ntmps3
  go_wp2_with (go_at_call 6; refine (hb _).mono ?_; rintro e w1 ⟨rfl, rfl⟩)
  go_ret
  exact ⟨rfl, Below.refl _ _⟩

set_option maxHeartbeats 1000000 in
theorem lawU_small (m : Int) (p : Option Addr) (n c : Nat) (l : List UInt8) (w : World) (h : Arg w p n l) (hn : n ≤ 1048576) (hm : w.cell? ⟨0, 0, none⟩ = some (.int .i64 m)) :
    Calls Tryd.prog 3 #[.slice p n c] w fun e w' => e = .returned (.bool true) ∧ Below w.heap.size w w' := by
  have hc := clone_any p n c l w h hn
  have hs := fun w => bytes6_small p n c w hn
  clear h
  go_enter Tryd.func3, Tryd.ntmps3
  go_wp2_with fail
  refine (hs _).mono ?_
  rintro e w0 ⟨rfl, hw0⟩
  have hw0' := hw0.symm
  clear hw0
  subst hw0'
  clear hs
  go_wp2_with fail
  refine hc.mono ?_
  rintro e w1 ⟨⟨p1, c1, rfl, s1⟩, hb1⟩
  have hu := zzUnfold_any m p1 n c1 l w1 s1 (by omega) (below_cell hb1 hm)
  clear hc
  go_wp2_with fail
  refine hu.mono ?_
  rintro e w2 ⟨rfl, hb2⟩
  have s2 : Sl w2 w2.heap.size p1 n c1 l := by
    have := s1.world hb2
    obtain ⟨a1, a2, a3, a4, a5, a6⟩ := this
    exact ⟨a1, a2, a3, a4, fun a ha => Nat.lt_of_lt_of_le (a5 a ha) hb2.size, a6⟩
  have hv := model_any p1 n c1 l w2 s2 hn
  have hb : Below w.heap.size w w2 := below_up hb1 hb2
  clear hu s1 s2 hb1 hb2 hm
  go_wp2_with fail
  refine hv.mono ?_
  rintro e w3 ⟨rfl, hb3⟩
  have hbz : Below w.heap.size w w3 := below_up hb hb3
  clear hv hb hb3
  generalize Uf.unfold l = r
  go_wp2
  go_ret
  exact ⟨by simp, hbz⟩
end Go.Proofs.Qxb6602839aDoor
