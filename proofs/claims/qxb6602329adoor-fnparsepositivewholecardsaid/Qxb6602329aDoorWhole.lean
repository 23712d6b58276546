/-
  Seat b6602329aD: the walk of the law FnParsePositiveWhole.
-/
import Derived.Test.Qxb6602329aDoorWalks
import Derived.Test.Qxb6602329aDoorFrame
namespace Go.Proofs.Qxb6602329aDoor
open Go.Shelf Go.RowKit

set_option maxHeartbeats 400000 in
theorem bytes_small (s : ByteArray) (w : World) (h : s.size ≤ 1048576) : Calls Tryd.prog 6 #[.string s] w fun e w' => e = .returned (.bool true) ∧ w' = w := by
  go_enter Tryd.func6, Tryd.ntmps6
  go_wp2
  go_ret
  exact ⟨rfl, rfl⟩
set_option maxHeartbeats 400000 in
theorem bytes_big (s : ByteArray) (w : World) (h : 1048576 < s.size) (hm : s.size ≤ 9223372036854775807) : Calls Tryd.prog 6 #[.string s] w fun e w' => e = .returned (.bool false) ∧ w' = w := by
  go_enter Tryd.func6, Tryd.ntmps6
  go_wp2
  go_ret
  exact ⟨rfl, rfl⟩

set_option maxHeartbeats 400000 in
theorem whole_big (s : ByteArray) (w : World) (h : 1048576 < s.size) (hm : s.size ≤ 9223372036854775807) : Calls Tryd.prog 3 #[.string s] w fun e w' => e = .returned (.bool true) ∧ Below w.heap.size w w' := by
  go_enter Tryd.func3, Tryd.ntmps3
  go_wp2_with (go_at_call 6; refine (bytes_big s _ h hm).mono ?_; rintro e w1 ⟨rfl, rfl⟩)
  go_ret
  exact ⟨rfl, Below.refl _ _⟩

theorem isDig_of (c : UInt8) (h1 : (48 : Int) ≤ (c.toNat : Int)) (h2 : (c.toNat : Int) ≤ 57) : Pp.isDig c = true := (Pp.isDig_iff c).2 (by omega)
theorem allDig_of (s : ByteArray) (h : ∀ j, (hj : j < s.size) → Pp.isDig s[j] = true) : Pp.allDig s.data.toList = true := by
  unfold Pp.allDig
  rw [List.all_eq_true]
  intro c hc
  obtain ⟨j, hj, rfl⟩ := List.mem_iff_getElem.1 hc
  exact h j (by simpa using hj)
theorem dig_of (s : ByteArray) (h : Pp.allDig s.data.toList = true) (j : Nat) (hj : j < s.size) : (48 : Int) ≤ (s[j].toNat : Int) ∧ (s[j].toNat : Int) ≤ 57 := by
  unfold Pp.allDig at h
  rw [List.all_eq_true] at h
  have := (Pp.isDig_iff _).1 (h s[j] (List.mem_iff_getElem.2 ⟨j, by simpa using hj, rfl⟩))
  omega
theorem dig_at (s : ByteArray) (k : Nat) (h : k < s.size) : s.data.toList[k]? = some s[k] := by
  have : k < s.data.toList.length := by simpa using h
  rw [List.getElem?_eq_getElem this]; rfl

set_option maxHeartbeats 400000 in
theorem whole_not (s : ByteArray) (p0 p1 : Value) (w : World) (h : s.size ≤ 1048576) (hd : Pp.allDig s.data.toList = false) (c0 : w.cell? ⟨0, 0, none⟩ = some (.iface 61 p0)) (c1 : w.cell? ⟨1, 0, none⟩ = some (.iface 61 p1)) :
    Calls Tryd.prog 3 #[.string s] w fun e w' => e = .returned (.bool true) ∧ Below w.heap.size w w' := by
  have hz := zz_any s p0 p1 w (by omega) c0 c1
  rw [(Pp.why_not _ hd).1, (Pp.why_not _ hd).2] at hz
  have HD : Hid (Pp.allDig s.data.toList = false) := hd
  clear hd c0 c1
  go_enter Tryd.func3, Tryd.ntmps3
  go_wp2_with (first | (go_at_call 6; refine (bytes_small s _ h).mono ?_; rintro e w1 ⟨rfl, rfl⟩) | (go_at_call 7; refine hz.mono ?_; rintro e w1 ⟨rfl, hb⟩))
  go_loop [5] (fun i => ∃ k : Nat, k ≤ s.size ∧ i = .int .i64 k ∧ Hid (∀ j, (hj : j < s.size) → j < k → Pp.isDig s[j] = true)) (fun i => s.size - (intOf i).toNat)
  case atStart => exact ⟨0, Nat.zero_le _, rfl, fun j _ hj => absurd hj (Nat.not_lt_zero _)⟩
  case round =>
    obtain ⟨k, hk, rfl, hall⟩ := hrel
    by_cases hlt : k < s.size
    · by_cases hc : (48 : Int) ≤ (s[k].toNat : Int) ∧ (s[k].toNat : Int) ≤ 57
      · obtain ⟨hc1, hc2⟩ := hc
        go_wp2
        go_round
        case rel => exact ⟨k + 1, by omega, by go_num, fun j hj hjk => if e : j = k then by subst e; exact isDig_of _ hc1 hc2 else hall.out j hj (by omega)⟩
        case measure => simp [intOf]; omega
      · have hc' : (s[k].toNat : Int) < 48 ∨ 57 < (s[k].toNat : Int) := by omega
        clear hc
        rcases hc' with hc' | hc'
        · go_wp2
          go_ret
          exact ⟨rfl, hb⟩
        · have hc2 : (48 : Int) ≤ (s[k].toNat : Int) := by omega
          go_wp2
          go_ret
          exact ⟨rfl, hb⟩
    · have ht : Pp.allDig s.data.toList = true := allDig_of s fun j hj => hall.out j hj (by omega)
      exact absurd (HD.out) (by rw [ht]; simp)

/-! ### Plain facts for the last two loops -/
theorem allDig_drop (l : List UInt8) (k : Nat) (h : Pp.allDig l = true) : Pp.allDig (l.drop k) = true := by
  unfold Pp.allDig at *
  rw [List.all_eq_true] at *
  exact fun c hc => h c (List.mem_of_mem_drop hc)
theorem allDig_take (l : List UInt8) (k : Nat) (h : Pp.allDig l = true) : Pp.allDig (l.take k) = true := by
  unfold Pp.allDig at *
  rw [List.all_eq_true] at *
  exact fun c hc => h c (List.mem_of_mem_take hc)
/-- What the digits from k up to j spell. -/
def part (s : ByteArray) (k j : Nat) : Nat := Pp.val 0 ((s.data.toList.drop k).take (j - k))
theorem part_start (s : ByteArray) (k : Nat) : part s k k = 0 := by unfold part; rw [Nat.sub_self, List.take_zero, Pp.val_nil]
theorem part_end (s : ByteArray) (k : Nat) : part s k s.size = Pp.val 0 (s.data.toList.drop k) := by
  unfold part
  rw [List.take_of_length_le]
  have e : s.data.toList.length = s.size := Array.length_toList
  rw [List.length_drop, e]; exact Nat.le_refl _
theorem part_step (s : ByteArray) (k j : Nat) (hk : k ≤ j) (hj : j < s.size) : part s k (j + 1) = part s k j * 10 + (s[j].toNat - 48) := by
  unfold part
  have e : s.data.toList.length = s.size := Array.length_toList
  have hl : j - k < (s.data.toList.drop k).length := by rw [List.length_drop, e]; omega
  rw [show j + 1 - k = (j - k) + 1 from by omega, List.take_succ_eq_append_getElem hl, Pp.val_snoc]
  have : (s.data.toList.drop k)[j - k] = s[j] := by
    rw [List.getElem_drop]
    have : s.data.toList[k + (j - k)]? = some s[j] := by rw [show k + (j - k) = j from by omega]; exact dig_at s j hj
    rw [List.getElem?_eq_getElem (by rw [e]; omega)] at this
    exact Option.some.inj this
  rw [this]
theorem part_lt (s : ByteArray) (k j : Nat) (h : Pp.allDig s.data.toList = true) (hj : j - k ≤ 9) : part s k j ≤ 999999999 := by
  unfold part
  have h1 := Pp.val_lt _ 0 (allDig_take _ (j - k) (allDig_drop _ k h))
  have h2 : ((s.data.toList.drop k).take (j - k)).length ≤ 9 := Nat.le_trans (List.length_take_le _ _) hj
  have h3 : (10 : Nat) ^ ((s.data.toList.drop k).take (j - k)).length ≤ 10 ^ 9 := Nat.pow_le_pow_right (by omega) h2
  have h4 : (10 : Nat) ^ 9 = 1000000000 := by decide
  omega
/-- Behind k leading zeros. -/
theorem val_behind (s : ByteArray) (k : Nat) (hk : k ≤ s.size) (hz : ∀ j, (hj : j < s.size) → j < k → s[j] = 48) : Pp.val 0 s.data.toList = Pp.val 0 (s.data.toList.drop k) :=
  Pp.val_zeros _ k fun j hj => by rw [dig_at s j (by omega), hz j (by omega) hj]
theorem drop_cons (s : ByteArray) (k : Nat) (hk : k < s.size) : s.data.toList.drop k = s[k] :: s.data.toList.drop (k + 1) := by
  have e : s.data.toList.length = s.size := Array.length_toList
  rw [List.drop_eq_getElem_cons (by rw [e]; exact hk)]; rfl
/-- All zeros. -/
theorem val_all_zeros (s : ByteArray) (hz : ∀ j, (hj : j < s.size) → j < s.size → s[j] = 48) : Pp.val 0 s.data.toList = 0 := by
  have e : s.data.toList.length = s.size := Array.length_toList
  rw [val_behind s s.size (Nat.le_refl _) hz, List.drop_of_length_le (by rw [e]; exact Nat.le_refl _), Pp.val_nil]
/-- More than ten digits behind the zeros. -/
theorem val_great (s : ByteArray) (k : Nat) (hk : k + 10 < s.size) (hz : ∀ j, (hj : j < s.size) → j < k → s[j] = 48) (hc : 49 ≤ s[k].toNat) : 2147483648 ≤ Pp.val 0 s.data.toList := by
  have e : s.data.toList.length = s.size := Array.length_toList
  rw [val_behind s k (by omega) hz, drop_cons s k (by omega)]
  have := Pp.val_long s[k] (s.data.toList.drop (k + 1)) hc (by rw [List.length_drop, e]; omega)
  omega
theorem val_some (s : ByteArray) (k : Nat) (hk : k < s.size) (hz : ∀ j, (hj : j < s.size) → j < k → s[j] = 48) (hc : 49 ≤ s[k].toNat) : 0 < Pp.val 0 s.data.toList := by
  rw [val_behind s k (by omega) hz, drop_cons s k hk]
  exact Pp.val_pos _ _ hc
theorem byte_zero (c : UInt8) (h : (c.toNat : Int) = 48) : c = 48 := by
  apply UInt8.toNat.inj
  have : (48 : UInt8).toNat = 48 := by decide
  omega

set_option maxHeartbeats 1000000 in
theorem whole_dig (s : ByteArray) (p0 p1 : Value) (w : World) (h : s.size ≤ 1048576) (hd : Pp.allDig s.data.toList = true) (c0 : w.cell? ⟨0, 0, none⟩ = some (.iface 61 p0)) (c1 : w.cell? ⟨1, 0, none⟩ = some (.iface 61 p1)) :
    Calls Tryd.prog 3 #[.string s] w fun e w' => e = .returned (.bool true) ∧ Below w.heap.size w w' := by
  have hz := zz_any s p0 p1 w (by omega) c0 c1
  have HD : Hid (Pp.allDig s.data.toList = true) := hd
  have HG : Hid (∀ j, (hj : j < s.size) → (48 : Int) ≤ (s[j].toNat : Int) ∧ (s[j].toNat : Int) ≤ 57) := fun j hj => dig_of s hd j hj
  obtain ⟨n, hn⟩ : ∃ n, n = Pp.num s.data.toList := ⟨_, rfl⟩
  obtain ⟨y, hy⟩ : ∃ y, y = Pp.why s.data.toList := ⟨_, rfl⟩
  rw [← hn, ← hy] at hz
  have HN : Hid (n = Pp.num s.data.toList ∧ y = Pp.why s.data.toList) := ⟨hn, hy⟩
  clear hd c0 c1 hn hy
  go_enter Tryd.func3, Tryd.ntmps3
  go_wp2_with (first | (go_at_call 6; refine (bytes_small s _ h).mono ?_; rintro e w1 ⟨rfl, rfl⟩) | (go_at_call 7; refine hz.mono ?_; rintro e w1 ⟨rfl, hb⟩))
  clear hz
  go_loop [5] (fun i => ∃ k : Nat, k ≤ s.size ∧ i = .int .i64 k) (fun i => s.size - (intOf i).toNat)
  case atStart => exact ⟨0, Nat.zero_le _, rfl⟩
  case round =>
    obtain ⟨k, hk, rfl⟩ := hrel
    by_cases hlt : k < s.size
    · obtain ⟨hc1, hc2⟩ := HG.out k hlt
      go_wp2
      go_round
      case rel => exact ⟨k + 1, by omega, by go_num⟩
      case measure => simp [intOf]; omega
    · by_cases h0 : s.size = 0
      · have e : n = 0 ∧ y = Pp.rangeB := by
          have hl : s.data.toList = [] := List.eq_nil_of_length_eq_zero (by rw [Array.length_toList]; exact h0)
          have := HN.out
          rw [hl, Pp.why_nil.1, Pp.why_nil.2] at this
          exact this
        obtain ⟨rfl, rfl⟩ := e
        clear HN
        go_wp2
        go_ret
        exact ⟨rfl, hb⟩
      · have h0' : ((s.size : Int) == 0) = false := beq_eq_false_iff_ne.2 (by omega)
        go_wp2
        go_loop [7] (fun i => ∃ m : Nat, m ≤ s.size ∧ i = .int .i64 m ∧ Hid (∀ j, (hj : j < s.size) → j < m → s[j] = 48)) (fun i => s.size - (intOf i).toNat)
        case atStart => exact ⟨0, Nat.zero_le _, rfl, fun j _ hj => absurd hj (Nat.not_lt_zero _)⟩
        case round =>
          obtain ⟨m, hm, rfl, hzs⟩ := hrel
          by_cases hml : m < s.size
          · by_cases hcz : (s[m].toNat : Int) = 48
            · have HC : Hid (s[m] = 48) := byte_zero _ hcz
              have hcb : ((s[m].toNat : Int) == 48) = true := beq_iff_eq.2 hcz
              clear hcz
              go_wp2
              go_round
              case rel => exact ⟨m + 1, by omega, by go_num, fun j hj hjk => if e : j = m then by subst e; exact HC.out else hzs.out j hj (by omega)⟩
              case measure => simp [intOf]; omega
            · have hcb : ((s[m].toNat : Int) == 48) = false := beq_eq_false_iff_ne.2 hcz
              have h49 : 49 ≤ s[m].toNat := by have := (HG.out m hml).1; omega
              clear hcz
              by_cases h10 : m + 10 < s.size
              · have e : n = 0 ∧ y = Pp.rangeB := by
                  have q := Pp.why_big _ HD.out (val_great s m h10 hzs.out h49)
                  have := HN.out
                  rw [q.1, q.2] at this
                  exact this
                obtain ⟨rfl, rfl⟩ := e
                clear HN HG HD hzs h49
                go_wp2
                go_ret
                exact ⟨rfl, hb⟩
              · have HV : Hid (Pp.val 0 s.data.toList = part s m s.size) := by
                  have := val_behind s m (by omega) hzs.out
                  rw [part_end]; exact this
                have HP : Hid (0 < Pp.val 0 s.data.toList) := val_some s m hml hzs.out h49
                clear hzs h49
                go_wp2
                go_loop [9, 10] (fun v i => ∃ j x : Nat, m ≤ j ∧ j ≤ s.size ∧ i = .int .i64 j ∧ v = .int .i64 x ∧ x ≤ 9999999999 ∧ Hid (x = part s m j)) (fun _ i => s.size - (intOf i).toNat)
                case atStart => exact ⟨m, 0, Nat.le_refl _, hm, rfl, rfl, by omega, (part_start s m).symm⟩
                case round =>
                  obtain ⟨j, x, hj1, hj2, rfl, rfl, hx, HX⟩ := hrel
                  by_cases hjl : j < s.size
                  · obtain ⟨hc1, hc2⟩ := HG.out j hjl
                    have hx9 : x ≤ 999999999 := by rw [HX.out]; exact part_lt s m j HD.out (by omega)
                    have HS : Hid (part s m (j + 1) = part s m j * 10 + (s[j].toNat - 48)) := part_step s m j hj1 hjl
                    go_wp2
                    go_round
                    case rel => exact ⟨j + 1, x * 10 + (s[j].toNat - 48), by omega, by omega, by go_num, congrArg (Value.int .i64) (by omega), by omega, by have h1 := HS.out; have h2 := HX.out; show _ = _; rw [h1, ← h2]⟩
                    case measure => simp [intOf]; omega
                  · have hxv : Hid (Pp.val 0 s.data.toList = x) := by
                      have h1 := HV.out; have h2 := HX.out
                      have : j = s.size := by omega
                      rw [this] at h2
                      show _ = _; rw [h1, h2]
                    by_cases hbig : 2147483647 < x
                    · have e : n = 0 ∧ y = Pp.rangeB := by
                        have q := Pp.why_big _ HD.out (by rw [hxv.out]; omega)
                        have := HN.out
                        rw [q.1, q.2] at this
                        exact this
                      obtain ⟨rfl, rfl⟩ := e
                      clear HN HG HD HV HP HX hxv
                      go_wp2
                      go_ret
                      exact ⟨rfl, hb⟩
                    · have e : n = (x : Int) ∧ y = [] := by
                        have q := Pp.why_ok _ HD.out HP.out (by rw [hxv.out]; omega)
                        have := HN.out
                        rw [q.1, q.2, hxv.out] at this
                        exact this
                      obtain ⟨rfl, rfl⟩ := e
                      clear HN HG HD HV HP HX hxv
                      go_wp2
                      go_ret
                      exact ⟨rfl, hb⟩
          · have e : n = 0 ∧ y = Pp.mustB := by
              have hms : m = s.size := by omega
              have q := Pp.why_zero s.data.toList (by intro e; apply h0; have := congrArg List.length e; simpa using this) HD.out (val_all_zeros s (by rw [hms] at hzs; exact hzs.out))
              have := HN.out
              rw [q.1, q.2] at this
              exact this
            obtain ⟨rfl, rfl⟩ := e
            clear HN HG HD hzs
            go_wp2
            go_ret
            exact ⟨rfl, hb⟩

theorem whole_walk : WalkS 3 := by
  intro s w p0 p1 hs c0 c1
  unfold maxLen at hs
  by_cases h : s.size ≤ 1048576
  · cases hd : Pp.allDig s.data.toList with
    | false => exact whole_not s p0 p1 w h hd c0 c1
    | true => exact whole_dig s p0 p1 w h hd c0 c1
  · exact whole_big s w (by omega) hs
end Go.Proofs.Qxb6602329aDoor
