/-
  Seat b6603102aD: plain law and walks of plainKey.
-/
import Derived.Test.Qxb6603102aDoorShelf
import Derived.WalkKit
import Derived.BigCall
namespace Go.Proofs.Qxb6603102aDoor
open Go.Shelf Go.RowKit

def letter (c : Int) : Bool := (decide (97 ≤ c) && decide (c ≤ 122)) || (decide (65 ≤ c) && decide (c ≤ 90))
def digit (c : Int) : Bool := decide (48 ≤ c) && decide (c ≤ 57)
def ident (c : Int) : Bool := letter c || digit c || decide (c = 95)
def allId (l : List UInt8) : Bool := l.all fun b => ident (b.toNat : Int)

theorem letter_any (c : Int) (w : World) : Calls Tryd.prog 15 #[.int .u8 c] w fun e w' => e = .returned (.bool (letter c)) ∧ w' = w := by
  unfold letter
  by_cases h1 : 97 ≤ c <;> by_cases h2 : c ≤ 122 <;> by_cases h3 : 65 ≤ c <;> by_cases h4 : c ≤ 90 <;> simp only [h1, h2, h3, h4, decide_true, decide_false, Bool.and_true, Bool.and_false, Bool.or_true, Bool.or_false] <;>
  · go_enter Tryd.func15, Tryd.ntmps15
    go_wp2
    go_ret
    exact ⟨rfl, rfl⟩

theorem digit_any (c : Int) (w : World) : Calls Tryd.prog 16 #[.int .u8 c] w fun e w' => e = .returned (.bool (digit c)) ∧ w' = w := by
  unfold digit
  by_cases h1 : 48 ≤ c <;> by_cases h2 : c ≤ 57 <;> simp only [h1, h2, decide_true, decide_false, Bool.and_true, Bool.and_false] <;>
  · go_enter Tryd.func16, Tryd.ntmps16
    go_wp2
    go_ret
    exact ⟨rfl, rfl⟩

theorem ident_any (c : Int) (w : World) : Calls Tryd.prog 12 #[.int .u8 c] w fun e w' => e = .returned (.bool (ident c)) ∧ w' = w := by
  unfold ident
  have hl := fun w => letter_any c w
  have hd := fun w => digit_any c w
  generalize letter c = L at hl ⊢
  generalize digit c = D at hd ⊢
  by_cases h : c = 95
  · have h1 : (c == 95) = true := beq_iff_eq.2 h
    rw [decide_eq_true h]
    clear h
    cases L <;> cases D <;>
    · go_enter Tryd.func12, Tryd.ntmps12
      go_wp2_with (first | (go_at_call 15; refine (hl _).mono ?_; rintro e w1 ⟨rfl, hw⟩; have hw := hw.symm; subst hw) | (go_at_call 16; refine (hd _).mono ?_; rintro e w1 ⟨rfl, hw⟩; have hw := hw.symm; subst hw))
      go_ret
      exact ⟨rfl, rfl⟩
  · have h1 : (c == 95) = false := beq_eq_false_iff_ne.2 h
    rw [decide_eq_false h]
    clear h
    cases L <;> cases D <;>
    · go_enter Tryd.func12, Tryd.ntmps12
      go_wp2_with (first | (go_at_call 15; refine (hl _).mono ?_; rintro e w1 ⟨rfl, hw⟩; have hw := hw.symm; subst hw) | (go_at_call 16; refine (hd _).mono ?_; rintro e w1 ⟨rfl, hw⟩; have hw := hw.symm; subst hw))
      go_ret
      exact ⟨rfl, rfl⟩

theorem allId_of (s : ByteArray) (h : ∀ j, (hj : j < s.size) → ident (s[j].toNat : Int) = true) : allId s.data.toList = true := by
  unfold allId
  rw [List.all_eq_true]
  intro b hb
  obtain ⟨j, hj, rfl⟩ := List.getElem_of_mem hb
  exact h j hj
theorem allId_not (s : ByteArray) (k : Nat) (hk : k < s.size) (h : ident (s[k].toNat : Int) = false) : allId s.data.toList = false := by
  cases e : allId s.data.toList with
  | false => rfl
  | true =>
    unfold allId at e
    rw [List.all_eq_true] at e
    have := e (s.data.toList[k]'hk) (List.getElem_mem hk)
    have h2 : ident ((s.data.toList[k]'hk).toNat : Int) = false := h
    rw [this] at h2
    cases h2

set_option maxHeartbeats 400000 in
theorem allIdent_any (s : ByteArray) (w : World) (hs : s.size ≤ 9223372036854775807) :
    Calls Tryd.prog 9 #[.string s] w fun e w' => e = .returned (.bool (allId s.data.toList)) ∧ w' = w := by
  generalize hA : allId s.data.toList = A
  have HA : Hid (allId s.data.toList = A) := hA
  clear hA
  go_enter Tryd.func9, Tryd.ntmps9
  go_wp2
  go_loop [3] (fun i => ∃ k : Nat, k ≤ s.size ∧ i = .int .i64 k ∧ Hid (∀ j, (hj : j < s.size) → j < k → ident (s[j].toNat : Int) = true)) (fun i => s.size - (intOf i).toNat)
  case atStart => exact ⟨0, Nat.zero_le _, rfl, fun j _ hj => absurd hj (Nat.not_lt_zero _)⟩
  case round =>
    obtain ⟨k, hk, rfl, hall⟩ := hrel
    by_cases hlt : k < s.size
    · have hi := ident_any (s[k].toNat : Int) w
      cases hc : ident (s[k].toNat : Int) with
      | true =>
        rw [hc] at hi
        have HC : Hid (ident (s[k].toNat : Int) = true) := hc
        clear hc
        go_wp2_with (go_at_call 12; refine hi.mono ?_; rintro e w1 ⟨rfl, hw⟩; have hw := hw.symm; subst hw)
        go_round
        case rel => exact ⟨k + 1, by omega, by go_num, fun j hj hjk => if e : j = k then by subst e; exact HC.out else hall.out j hj (by omega)⟩
        case measure => simp [intOf]; omega
      | false =>
        rw [hc] at hi
        have e : A = false := HA.out.symm.trans (allId_not s k hlt hc)
        subst e
        clear hc
        go_wp2_with (go_at_call 12; refine hi.mono ?_; rintro e w1 ⟨rfl, hw⟩; have hw := hw.symm; subst hw)
        go_ret
        exact ⟨rfl, rfl⟩
    · have e : A = true := HA.out.symm.trans (allId_of s fun j hj => hall.out j hj (by omega))
      subst e
      go_wp2
      go_ret
      exact ⟨rfl, rfl⟩

theorem ascii_all {l : List UInt8} (h : l.all (fun b => decide (b.toNat < 128)) = true) : ∀ (j : Nat) b, l[j]? = some b → b.toNat < 128 :=
  fun _ b hb => of_decide_eq_true (List.all_eq_true.1 h b (List.mem_of_getElem? hb))

theorem contains_any (w : World) : Calls Tryd.prog 13 #[.string ⟨#[95]⟩, .string ⟨#[48, 49, 50, 51, 52, 53, 54, 55, 56, 57]⟩] w fun e w' => e = .returned (.bool false) ∧ Below w.heap.size w w' :=
  Any.strings_ContainsAny_laid Tryd.lays150 (by kernel_rfl) ⟨#[95]⟩ ⟨#[48, 49, 50, 51, 52, 53, 54, 55, 56, 57]⟩ w (by decide) (by decide) (ascii_all (by decide)) (ascii_all (by decide))

theorem extra : Builder.Extra Tryd.prog Tryd.lays159_ren where
  sizeBuilder := by kernel_rfl
  liesBuilder := by kernel_rfl
  t5 := Tryd.lays159.t5
  a5 := Tryd.lays159.a5
  z5 := Tryd.lays159.z5
  v5 := Tryd.lays159.v5
  infoByte := by kernel_rfl
  cellsByte := by kernel_rfl
  sizeByte := by kernel_rfl
  neB5 := by decide

theorem lower_any (s : ByteArray) (w : World) (hs : s.size ≤ 140737488355328) (hascii : ∀ (j : Nat) (b : UInt8), s.data.toList[j]? = some b → b.toNat < 128) :
    Calls Tryd.prog 14 #[.string s] w fun e w' => e = .returned (.string ⟨(Lib.toLowerA s.data.toList).toArray⟩) ∧ Below w.heap.size w w' :=
  Any.strings_ToLower_ascii Tryd.lays159 extra s w hs hascii
end Go.Proofs.Qxb6603102aDoor
