/-
  Seat b6603102aD: the walk of the law FnPlainKeyAcceptsUnderscoreBeforeAnyIdentifierTail.
-/
import Derived.Test.Qxb6603102aDoorKey
import Derived.Test.Qxb6603102aDoorFrame
namespace Go.Proofs.Qxb6603102aDoor
open Go.Shelf Go.RowKit

theorem zzKey_any (s : ByteArray) (l : List UInt8) (w : World) (hl : s.data.toList = 95 :: l) (hs : s.size ≤ 140737488355328) :
    Calls Tryd.prog 6 #[.string s] w fun e w' => e = .returned (.bool (allId s.data.toList)) ∧ Below w.heap.size w w' := by
  have h := plainKey_any s l w hl hs
  generalize allId s.data.toList = A at h ⊢
  go_enter Tryd.func6, Tryd.ntmps6
  go_wp2_with (go_at_call 10; refine h.mono ?_; rintro e w1 ⟨rfl, hb⟩)
  go_ret
  exact ⟨rfl, hb⟩

theorem small_any (s : ByteArray) (w : World) (hs : s.size ≤ 9223372036854775807) :
    Calls Tryd.prog 8 #[.string s] w fun e w' => e = .returned (.bool (decide ((s.size : Int) ≤ 1048576))) ∧ w' = w := by
  rcases Int.lt_or_le 1048576 (s.size : Int) with h | h
  · rw [decide_eq_false (by omega)]
    go_enter Tryd.func8, Tryd.ntmps8
    go_wp2
    go_ret
    exact ⟨rfl, rfl⟩
  · rw [decide_eq_true h]
    go_enter Tryd.func8, Tryd.ntmps8
    go_wp2
    go_ret
    exact ⟨rfl, rfl⟩

set_option maxHeartbeats 800000 in
theorem law_walk : WalkS 4 := by
  intro s w hm
  have hs : s.size ≤ 9223372036854775807 := Nat.le_trans hm (by decide)
  have hz := small_any s w hs
  rcases Int.lt_or_le 1048576 (s.size : Int) with h | h
  · rw [decide_eq_false (by omega)] at hz
    clear hm
    go_enter Tryd.func4, Tryd.ntmps4
    go_wp2_with (go_at_call 8; refine hz.mono ?_; rintro e w1 ⟨rfl, hw⟩; have hw := hw.symm; subst hw)
    go_ret
    exact ⟨rfl, Below.refl _ _⟩
  · rw [decide_eq_true h] at hz
    clear hm h
    rcases Int.lt_or_le 65536 (s.size : Int) with h | h
    · go_enter Tryd.func4, Tryd.ntmps4
      go_wp2_with (go_at_call 8; refine hz.mono ?_; rintro e w1 ⟨rfl, hw⟩; have hw := hw.symm; subst hw)
      go_ret
      exact ⟨rfl, Below.refl _ _⟩
    · have hl : ((⟨#[95]⟩ : ByteArray) ++ s).data.toList = 95 :: s.data.toList := by
        rw [ByteArray.data_append, Array.toList_append]
        rfl
      have hk := zzKey_any (⟨#[95]⟩ ++ s) s.data.toList w hl (by
        rw [show ((⟨#[95]⟩ : ByteArray) ++ s).size = ((⟨#[95]⟩ : ByteArray) ++ s).data.toList.length from rfl, hl]
        show s.data.toList.length + 1 ≤ 140737488355328
        rw [show s.data.toList.length = s.size from rfl]
        omega)
      have e : allId ((⟨#[95]⟩ : ByteArray) ++ s).data.toList = allId s.data.toList := by
        rw [hl]
        rfl
      rw [e] at hk
      have ha := fun w => allIdent_any s w hs
      generalize allId s.data.toList = A at hk ha
      clear hl e
      cases A
      · go_enter Tryd.func4, Tryd.ntmps4
        go_wp2_with (first | (go_at_call 8; refine hz.mono ?_; rintro e w1 ⟨rfl, hw⟩; have hw := hw.symm; subst hw) | (go_at_call 6; refine hk.mono ?_; rintro e w1 ⟨rfl, hb⟩) | (go_at_call 9; refine (ha _).mono ?_; rintro e w2 ⟨rfl, hw⟩; have hw := hw.symm; subst hw))
        go_ret
        exact ⟨rfl, hb⟩
      · go_enter Tryd.func4, Tryd.ntmps4
        go_wp2_with (first | (go_at_call 8; refine hz.mono ?_; rintro e w1 ⟨rfl, hw⟩; have hw := hw.symm; subst hw) | (go_at_call 6; refine hk.mono ?_; rintro e w1 ⟨rfl, hb⟩) | (go_at_call 9; refine (ha _).mono ?_; rintro e w2 ⟨rfl, hw⟩; have hw := hw.symm; subst hw))
        go_ret
        exact ⟨rfl, hb⟩
end Go.Proofs.Qxb6603102aDoor
