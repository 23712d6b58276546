/-
  Seat b6603961aD: the law FnCanonicalNumberMatchesModel walked.
-/
import Derived.Test.Qxb6603961aDoorCan
import Derived.Test.Qxb6603961aDoorModB
import Derived.Test.Qxb6603961aDoorAut
import Derived.Test.Qxb6603961aDoorFrame
namespace Go.Proofs.Qxb6603961aDoor
open Go.Shelf Go.RowKit Nb

set_option maxHeartbeats 1000000 in
set_option maxRecDepth 50000 in
theorem model_none (s : ByteArray) (w : World)
    (haut : ∀ W : World, Calls Tryd.prog 15 #[.string s, .bool false] W fun e w' => e = .returned (.tuple #[.bool false, .string ⟨#[]⟩, .string ⟨#[]⟩, .bool false, .string ⟨#[]⟩, .bool false]) ∧ Below W.heap.size W w') :
    Calls Tryd.prog 6 #[.string s] w fun e w' => e = .returned (.tuple #[.string ⟨#[]⟩, .bool false]) ∧ Below w.heap.size w w' := by
  go_enter Tryd.func6, Tryd.ntmps6
  go_wp2_with (go_at_call 15; refine (haut _).mono ?_; rintro e w1 ⟨rfl, hb1⟩)
  go_ret2
  exact ⟨rfl, hb1⟩
theorem model_any (s : ByteArray) (w : World) (hs : (s.size : Int) ≤ 1048576) : Calls Tryd.prog 6 #[.string s] w fun e w' => e = .returned (canV (scan (bl s))) ∧ Below w.heap.size w w' := by
  have haut := fun W => automaton_any s W (by omega)
  cases hr : scan (bl s) with
  | none =>
    rw [hr] at haut
    exact model_none s w haut
  | some P =>
    rw [hr] at haut
    obtain ⟨n, a, f, en, x⟩ := P
    have h := scan_ok hr
    obtain ⟨h1, h2, h3, h4, h5⟩ := h
    exact model_some s w n en a f x ⟨h1, h2, h3, h4, by rw [bl_len] at h5; omega⟩ haut

set_option maxHeartbeats 1000000 in
set_option maxRecDepth 50000 in
theorem law_walk : WalkS 3 := by
  intro s w ht hm
  have hs : s.size ≤ 9223372036854775807 := Nat.le_trans hm (by decide)
  have hz := small_any s w hs
  have HT : Hid (Tab w) := ht
  clear ht
  rcases Int.lt_or_le 1048576 (s.size : Int) with h | h
  · rw [decide_eq_false (by omega)] at hz
    clear hm
    go_enter Tryd.func3, Tryd.ntmps3
    go_wp2_with (go_at_call 4; refine hz.mono ?_; rintro e w1 ⟨rfl, hw⟩; have hw := hw.symm; subst hw)
    go_ret
    exact ⟨rfl, Below.refl _ _⟩
  · rw [decide_eq_true h] at hz
    clear hm
    have hc := canonical_any s w HT.out h
    have hd := fun W => model_any s W h
    cases hr : scan (bl s) with
    | none =>
      rw [hr] at hc hd
      have hc' : Calls Tryd.prog 5 #[.string s] w fun e w' => e = .returned (.tuple #[.string ⟨#[]⟩, .bool false]) ∧ Below w.heap.size w w' := hc
      have hd' : ∀ W : World, Calls Tryd.prog 6 #[.string s] W fun e w' => e = .returned (.tuple #[.string ⟨#[]⟩, .bool false]) ∧ Below W.heap.size W w' := hd
      clear hc hd hr
      go_enter Tryd.func3, Tryd.ntmps3
      go_wp2_with (first | (go_at_call 4; refine hz.mono ?_; rintro e w1 ⟨rfl, hw⟩; have hw := hw.symm; subst hw) | (go_at_call 5; refine hc'.mono ?_; rintro e w2 ⟨rfl, hb2⟩) | (go_at_call 6; refine (hd' _).mono ?_; rintro e w3 ⟨rfl, hb3⟩))
      go_ret
      exact ⟨rfl, below_up hb2 hb3⟩
    | some P =>
      rw [hr] at hc hd
      obtain ⟨T, hT⟩ : ∃ T, ofl (canon P) = T := ⟨_, rfl⟩
      have hc' : Calls Tryd.prog 5 #[.string s] w fun e w' => e = .returned (.tuple #[.string T, .bool true]) ∧ Below w.heap.size w w' := by rw [← hT]; exact hc
      have hd' : ∀ W : World, Calls Tryd.prog 6 #[.string s] W fun e w' => e = .returned (.tuple #[.string T, .bool true]) ∧ Below W.heap.size W w' := by rw [← hT]; exact hd
      clear hc hd hr hT
      go_enter Tryd.func3, Tryd.ntmps3
      go_wp2_with (first | (go_at_call 4; refine hz.mono ?_; rintro e w1 ⟨rfl, hw⟩; have hw := hw.symm; subst hw) | (go_at_call 5; refine hc'.mono ?_; rintro e w2 ⟨rfl, hb2⟩) | (go_at_call 6; refine (hd' _).mono ?_; rintro e w3 ⟨rfl, hb3⟩))
      go_ret
      exact ⟨rfl, below_up hb2 hb3⟩
end Go.Proofs.Qxb6603961aDoor
