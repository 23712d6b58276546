/-
  Seat b6603961aD: walks of digitRun, zzTrimZeros, zzBytes.
-/
import Derived.Test.Qxb6603961aDoorCanon
import Derived.Test.Qxb6603961aDoorProg
import Derived.WalkKit
import Derived.BigCall
import Derived.Below
namespace Go.Proofs.Qxb6603961aDoor
open Go.RowKit Nb

abbrev bl (s : ByteArray) : List UInt8 := s.data.toList
theorem bl_len (s : ByteArray) : (bl s).length = s.size := rfl
theorem bl_drop (s : ByteArray) (k : Nat) (h : k < s.size) : (bl s).drop k = s[k] :: (bl s).drop (k + 1) := List.drop_eq_getElem_cons (l := s.data.toList) h
theorem bl_drop_end (s : ByteArray) (k : Nat) (h : s.size ≤ k) : (bl s).drop k = [] := List.drop_eq_nil_of_le h
theorem bl_extract (s : ByteArray) (a b : Nat) : bl (s.extract a b) = sl (bl s) a b := by
  unfold sl bl
  rw [ByteArray.data_extract, Array.toList_extract]
theorem sl_to_end (l : List UInt8) (a : Nat) : sl l a l.length = l.drop a := by
  unfold sl
  exact List.take_of_length_le (by rw [List.length_drop]; exact Nat.le_refl _)
theorem sl_from_zero (l : List UInt8) (a : Nat) : sl l 0 a = l.take a := rfl
theorem isDig_int (c : UInt8) (h1 : 48 ≤ (c.toNat : Int)) (h2 : (c.toNat : Int) ≤ 57) : isDig c = true := (isDig_iff c).2 ⟨by omega, by omega⟩
theorem isDig_int_lo (c : UInt8) (h1 : ¬ 48 ≤ (c.toNat : Int)) : isDig c = false := by
  cases h : isDig c with
  | false => rfl
  | true => have := (isDig_iff c).1 h; omega
theorem isDig_int_hi (c : UInt8) (h1 : ¬ (c.toNat : Int) ≤ 57) : isDig c = false := by
  cases h : isDig c with
  | false => rfl
  | true => have := (isDig_iff c).1 h; omega

theorem digitRun_any (s : ByteArray) (w : World) (hs : s.size ≤ 9223372036854775807) :
    Calls Tryd.prog 20 #[.string s] w fun e w' => e = .returned (.int .i64 (run (bl s) : Int)) ∧ w' = w := by
  generalize hA : (run (bl s) : Int) = A
  have HA : Hid ((run (bl s) : Int) = A) := hA
  clear hA
  go_enter Tryd.func20, Tryd.ntmps20
  go_wp2
  go_loop [3] (fun i => ∃ k : Nat, k ≤ s.size ∧ i = .int .i64 k ∧ Hid (run (bl s) = k + run ((bl s).drop k))) (fun i => s.size - (intOf i).toNat)
  case atStart => exact ⟨0, Nat.zero_le _, rfl, by show run (bl s) = 0 + run ((bl s).drop 0); rw [List.drop_zero, Nat.zero_add]⟩
  case round =>
    obtain ⟨k, hk, rfl, hall⟩ := hrel
    by_cases hlt : k < s.size
    · have hT : isDig s[k] = true → Hid (run (bl s) = (k + 1) + run ((bl s).drop (k + 1))) := fun h => by
        show run (bl s) = (k + 1) + run ((bl s).drop (k + 1))
        have := hall.out
        rw [bl_drop s k hlt, run_dig _ h] at this
        omega
      have hF : isDig s[k] = false → A = k := fun h => by
        rw [← HA.out]
        have := hall.out
        rw [bl_drop s k hlt, run_not _ h] at this
        omega
      have HT : Hid (isDig s[k] = true → Hid (run (bl s) = (k + 1) + run ((bl s).drop (k + 1)))) := hT
      have HF : Hid (isDig s[k] = false → A = k) := hF
      have D1 : Hid (48 ≤ (s[k].toNat : Int) → (s[k].toNat : Int) ≤ 57 → isDig s[k] = true) := isDig_int s[k]
      have D2 : Hid (¬ 48 ≤ (s[k].toNat : Int) → isDig s[k] = false) := isDig_int_lo s[k]
      have D3 : Hid (¬ (s[k].toNat : Int) ≤ 57 → isDig s[k] = false) := isDig_int_hi s[k]
      clear hT hF hall
      by_cases c1 : 48 ≤ (s[k].toNat : Int)
      · by_cases c2 : (s[k].toNat : Int) ≤ 57
        · have Ht := HT.out (D1.out c1 c2)
          clear HT HF D1 D2 D3
          go_wp2
          go_round
          case rel => exact ⟨k + 1, by omega, by go_num, Ht⟩
          case measure => simp [intOf]; omega
        · have e := HF.out (D3.out c2)
          subst e
          clear HT HF D1 D2 D3
          go_wp2
          go_ret
          exact ⟨rfl, rfl⟩
      · have e := HF.out (D2.out c1)
        subst e
        clear HT HF D1 D2 D3
        go_wp2
        go_ret
        exact ⟨rfl, rfl⟩
    · have e : A = k := by
        rw [← HA.out]
        have := hall.out
        rw [bl_drop_end s k (by omega)] at this
        have h0 : run ([] : List UInt8) = 0 := rfl
        omega
      subst e
      go_wp2
      go_ret
      exact ⟨rfl, rfl⟩

abbrev ofl (l : List UInt8) : ByteArray := ⟨l.toArray⟩
theorem ofl_bl (s : ByteArray) : ofl (bl s) = s := by
  obtain ⟨⟨x⟩⟩ := s
  rfl
theorem bl_ofl (l : List UInt8) : bl (ofl l) = l := rfl
theorem bytes_eq {a b : ByteArray} (h : bl a = bl b) : a = b := by rw [← ofl_bl a, ← ofl_bl b, h]
theorem eq_ofl {a : ByteArray} {l : List UInt8} (h : bl a = l) : ofl l = a := by rw [← h, ofl_bl]

theorem trimZeros_any (s : ByteArray) (w : World) (hs : s.size ≤ 9223372036854775807) :
    Calls Tryd.prog 17 #[.string s] w fun e w' => e = .returned (.string (ofl (trimZ (bl s)))) ∧ w' = w := by
  generalize hA : ofl (trimZ (bl s)) = A
  have HA : Hid (ofl (trimZ (bl s)) = A) := hA
  clear hA
  go_enter Tryd.func17, Tryd.ntmps17
  go_wp2
  go_loop [3] (fun i => ∃ k : Nat, k ≤ s.size ∧ i = .int .i64 k ∧ Hid (strip (bl s) = strip ((bl s).drop k))) (fun i => s.size - (intOf i).toNat)
  case atStart => exact ⟨0, Nat.zero_le _, rfl, by show strip (bl s) = strip ((bl s).drop 0); rw [List.drop_zero]⟩
  case round =>
    obtain ⟨k, hk, rfl, hall⟩ := hrel
    by_cases hlt : k < s.size
    · cases c1 : ((s[k].toNat : Int) == 48) with
      | true =>
        have Ht : Hid (strip (bl s) = strip ((bl s).drop (k + 1))) := by
          show strip (bl s) = strip ((bl s).drop (k + 1))
          have e : s[k] = 48 := by
            have := beq_iff_eq.1 c1
            apply UInt8.toNat_inj.1
            show s[k].toNat = 48
            omega
          have h := hall.out
          rw [bl_drop s k hlt, strip_cons, if_pos e] at h
          exact h
        clear hall
        go_wp2
        go_round
        case rel => exact ⟨k + 1, by omega, by go_num, Ht⟩
        case measure => simp [intOf]; omega
      | false =>
        have e : A = s.extract k s.size := by
          rw [← HA.out]
          apply eq_ofl
          rw [bl_extract, ← bl_len, sl_to_end]
          have h := hall.out
          have e : s[k] ≠ 48 := by
            intro e
            have := beq_eq_false_iff_ne.1 c1
            rw [e] at this
            exact this rfl
          rw [bl_drop s k hlt, strip_cons, if_neg e] at h
          unfold trimZ
          rw [h, if_neg (by simp), bl_drop s k hlt]
        subst e
        have hne : ((k : Int) == (s.size : Int)) = false := beq_eq_false_iff_ne.2 (by omega)
        clear hall
        go_wp2
        go_ret
        exact ⟨rfl, rfl⟩
    · have e : A = ⟨#[48]⟩ := by
        rw [← HA.out]
        have h := hall.out
        rw [bl_drop_end s k (by omega)] at h
        have h' : strip (bl s) = [] := h
        unfold trimZ
        rw [if_pos h']
      subst e
      have hke : k = s.size := by omega
      subst hke
      go_wp2
      go_ret
      exact ⟨rfl, rfl⟩

theorem small_any (s : ByteArray) (w : World) (hs : s.size ≤ 9223372036854775807) :
    Calls Tryd.prog 4 #[.string s] w fun e w' => e = .returned (.bool (decide ((s.size : Int) ≤ 1048576))) ∧ w' = w := by
  rcases Int.lt_or_le 1048576 (s.size : Int) with h | h
  · rw [decide_eq_false (by omega)]
    go_enter Tryd.func4, Tryd.ntmps4
    go_wp2
    go_ret
    exact ⟨rfl, rfl⟩
  · rw [decide_eq_true h]
    go_enter Tryd.func4, Tryd.ntmps4
    go_wp2
    go_ret
    exact ⟨rfl, rfl⟩
end Go.Proofs.Qxb6603961aDoor
