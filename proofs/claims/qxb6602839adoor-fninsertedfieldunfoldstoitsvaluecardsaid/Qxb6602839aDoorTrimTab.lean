/-
  Seat b6602839aD: the walks of isBlank and trimSpaceTab.
-/
import Derived.Test.Qxb6602839aDoorClone
namespace Go.Proofs.Qxb6602839aDoor
open Go.Shelf Go.RowKit

set_option maxHeartbeats 400000 in
theorem blank_any (c : UInt8) (w : World) : Calls Tryd.prog 18 #[.int .u8 (c.toNat : Int)] w fun e w' => e = .returned (.bool (Uf.isBlank c)) ∧ w' = w := by
  have key : Uf.isBlank c = (((c.toNat : Int) == 32) || ((c.toNat : Int) == 9)) := by
    have h : ∀ n : Fin 256, Uf.isBlank (UInt8.ofNat n.val) = ((((UInt8.ofNat n.val).toNat : Int) == 32) || (((UInt8.ofNat n.val).toNat : Int) == 9)) := by decide +kernel
    have := h ⟨c.toNat, c.toNat_lt⟩
    simpa using this
  rw [key]
  clear key
  cases h1 : ((c.toNat : Int) == 32)
  · cases h2 : ((c.toNat : Int) == 9)
    · go_enter Tryd.func18, Tryd.ntmps18
      go_wp2
      go_ret
      exact ⟨rfl, rfl⟩
    · go_enter Tryd.func18, Tryd.ntmps18
      go_wp2
      go_ret
      exact ⟨rfl, rfl⟩
  · go_enter Tryd.func18, Tryd.ntmps18
    go_wp2
    go_ret
    exact ⟨rfl, rfl⟩

theorem byte_at (s : ByteArray) (k : Nat) (h : k < s.size) : s.data.toList[k]? = some s[k] := by
  have : k < s.data.toList.length := by simpa using h
  rw [List.getElem?_eq_getElem this]; rfl
/-- What lies between lo and hi, where all before lo and from hi on is blank and neither end is. -/
theorem trim_between (s : ByteArray) (lo hi : Nat) (h1 : lo ≤ hi) (h2 : hi ≤ s.size) (ha : ∀ j, (hj : j < s.size) → j < lo → Uf.isBlank s[j] = true) (hz : ∀ j, (hj : j < s.size) → hi ≤ j → Uf.isBlank s[j] = true)
    (hl : (hj : lo < s.size) → lo < hi → Uf.isBlank s[lo] = false) (hh : (hj : hi - 1 < s.size) → lo < hi → Uf.isBlank s[hi - 1] = false) : Lib.trimS s.data.toList Uf.blanks = (s.data.toList.take hi).drop lo := by
  have e : s.data.toList.length = s.size := Array.length_toList
  have get : ∀ (j : Nat) b, s.data.toList[j]? = some b → ∃ hj : j < s.size, s[j] = b := by
    intro j b hb
    have hj : j < s.size := by rw [← e]; exact (List.getElem?_eq_some_iff.1 hb).1
    rw [byte_at s j hj] at hb
    exact ⟨hj, Option.some.inj hb⟩
  by_cases hlt : lo < hi
  · have r : Lib.trimRightS s.data.toList Uf.blanks = s.data.toList.take hi := by
      refine Lib.trimRightS_take _ _ hi (by omega) (fun j b hj hb => ?_) (fun b _ hb => ?_)
      · obtain ⟨hj', rfl⟩ := get j b hb
        rw [Uf.blanks_contains]; exact hz j hj' hj
      · obtain ⟨hj', rfl⟩ := get _ b hb
        rw [Uf.blanks_contains]; exact hh hj' hlt
    unfold Lib.trimS
    rw [r]
    refine Lib.trimLeftS_drop _ _ lo (by rw [List.length_take]; omega) (fun j b hj hb => ?_) (fun b hb => ?_)
    · rw [List.getElem?_take_of_lt (by omega)] at hb
      obtain ⟨hj', rfl⟩ := get j b hb
      rw [Uf.blanks_contains]; exact ha j hj' hj
    · rw [List.getElem?_take_of_lt (by omega)] at hb
      obtain ⟨hj', rfl⟩ := get lo b hb
      rw [Uf.blanks_contains]; exact hl hj' hlt
  · have hr : Lib.trimRightS s.data.toList Uf.blanks = s.data.toList.take 0 := by
      refine Lib.trimRightS_take _ _ 0 (Nat.zero_le _) (fun j b _ hb => ?_) (fun b h0 _ => absurd h0 (Nat.lt_irrefl 0))
      obtain ⟨hj', rfl⟩ := get j b hb
      rw [Uf.blanks_contains]
      by_cases hj : j < lo
      · exact ha j hj' hj
      · exact hz j hj' (by omega)
    unfold Lib.trimS
    rw [hr, List.take_zero, Lib.trimLeftS_nil, List.drop_of_length_le (by rw [List.length_take]; omega)]

theorem run_cutStr (s : ByteArray) (lo hi : Nat) (w : World) (h1 : lo ≤ hi) (h2 : hi ≤ s.size) :
    (Instr.slice 9 (.string s) (some (.int .i64 (lo : Int))) (some (.int .i64 (hi : Int))) none).run Tryd.prog w = .ok (.string ⟨((s.data.toList.take hi).drop lo).toArray⟩) w := by
  rw [run_slice_string w 9 s .i64 .i64 (lo : Int) (hi : Int) Tryd.underlying9 (by omega) (by omega) (by omega)]
  have e : s.extract lo hi = ⟨((s.data.toList.take hi).drop lo).toArray⟩ := by
    apply ByteArray.ext
    apply Array.toList_inj.1
    simp [ByteArray.data_extract, List.drop_take]
  rw [Int.toNat_natCast, Int.toNat_natCast, e]
set_option maxHeartbeats 1000000 in
theorem trimTab_any (s : ByteArray) (w : World) (hs : s.size ≤ 140737488355328) :
    Calls Tryd.prog 16 #[.string s] w fun e w' => e = .returned (.string ⟨(Lib.trimS s.data.toList Uf.blanks).toArray⟩) ∧ w' = w := by
  go_enter Tryd.func16, Tryd.ntmps16
  go_wp2
  go_loop [3] (fun i => ∃ k : Nat, k ≤ s.size ∧ i = .int .i64 k ∧ Hid (∀ j, (hj : j < s.size) → j < k → Uf.isBlank s[j] = true)) (fun i => s.size - (intOf i).toNat)
  case atStart => exact ⟨0, Nat.zero_le _, rfl, fun j _ hj => absurd hj (Nat.not_lt_zero _)⟩
  case round =>
    obtain ⟨lo, hlo, rfl, hA⟩ := hrel
    by_cases hgo : ∃ hj : lo < s.size, Uf.isBlank s[lo] = true
    · obtain ⟨hlt, hbl⟩ := hgo
      have HB : Hid (Uf.isBlank s[lo] = true) := hbl
      have hcb := fun w => blank_any s[lo] w
      simp only [hbl] at hcb
      clear hbl
      go_wp2_with (go_at_call 18; refine (hcb _).mono ?_; rintro e w1 ⟨rfl, rfl⟩)
      go_round
      case rel => exact ⟨lo + 1, by omega, by go_num, fun j hj hjk => if e : j = lo then by subst e; exact HB.out else hA.out j hj (by omega)⟩
      case measure => simp [intOf]; omega
    · have HL : Hid ((hj : lo < s.size) → Uf.isBlank s[lo] = false) := fun hj => Bool.eq_false_iff.2 fun h => hgo ⟨hj, h⟩
      clear hgo
      by_cases hlt : lo < s.size
      · have hcb := fun w => blank_any s[lo] w
        simp only [HL.out hlt] at hcb
        go_wp2_with (go_at_call 18; refine (hcb _).mono ?_; rintro e w1 ⟨rfl, rfl⟩)
        clear hcb
        go_loop [4] (fun i => ∃ k : Nat, lo ≤ k ∧ k ≤ s.size ∧ i = .int .i64 k ∧ Hid (∀ j, (hj : j < s.size) → k ≤ j → Uf.isBlank s[j] = true)) (fun i => (intOf i).toNat)
        case atStart => exact ⟨s.size, hlo, Nat.le_refl _, rfl, fun j hj hk => absurd hj (Nat.not_lt.2 hk)⟩
        case round =>
          obtain ⟨hi, h1, h2, rfl, hZ⟩ := hrel
          by_cases hmore : lo < hi
          · have hlt' : hi - 1 < s.size := by omega
            cases hbl : Uf.isBlank s[hi - 1] with
            | true =>
              have HB : Hid (Uf.isBlank s[hi - 1] = true) := hbl
              have hcb := fun w => blank_any s[hi - 1] w
              simp only [hbl] at hcb
              clear hbl
              go_wp2_with (go_at_call 18; refine (hcb _).mono ?_; rintro e w1 ⟨rfl, rfl⟩)
              go_round
              case rel => exact ⟨hi - 1, by omega, by omega, by go_num, fun j hj hjk => if e : j = hi - 1 then by subst e; exact HB.out else hZ.out j hj (by omega)⟩
              case measure => simp [intOf]; omega
            | false =>
              have HE : Hid (Lib.trimS s.data.toList Uf.blanks = (s.data.toList.take hi).drop lo) :=
                trim_between s lo hi h1 h2 hA.out hZ.out (fun hj _ => HL.out hj) (fun hj _ => hbl)
              have hcb := fun w => blank_any s[hi - 1] w
              simp only [hbl] at hcb
              clear hbl HL hA hZ
              have hsl := fun w => run_cutStr s lo hi w h1 h2
              go_wp2_with (go_at_call 18; refine (hcb _).mono ?_; rintro e w1 ⟨rfl, rfl⟩)
              go_ret
              exact ⟨by rw [HE.out]; rfl, rfl⟩
          · have HE : Hid (Lib.trimS s.data.toList Uf.blanks = (s.data.toList.take hi).drop lo) :=
              trim_between s lo hi h1 h2 hA.out hZ.out (fun _ h => absurd h hmore) (fun _ h => absurd h hmore)
            have hsl := fun w => run_cutStr s lo hi w h1 h2
            clear HL hA hZ
            go_wp2
            go_ret
            exact ⟨by rw [HE.out]; rfl, rfl⟩
      · have HE : Hid (Lib.trimS s.data.toList Uf.blanks = (s.data.toList.take s.size).drop lo) :=
          trim_between s lo s.size hlo (Nat.le_refl _) hA.out (fun j hj hk => absurd hj (Nat.not_lt.2 hk)) (fun _ h => absurd h hlt) (fun _ h => absurd h hlt)
        have hsl := fun w => run_cutStr s lo s.size w hlo (Nat.le_refl _)
        clear HL hA
        go_wp2
        go_loop [4] (fun i => i = .int .i64 s.size) (fun i => (intOf i).toNat)
        case atStart => exact rfl
        case round =>
          obtain rfl := hrel
          go_wp2
          go_ret
          exact ⟨by rw [HE.out]; rfl, rfl⟩
end Go.Proofs.Qxb6602839aDoor
