/-
  Seat b6603961aD: the walk of zzSignedAdd.
-/
import Derived.Test.Qxb6603961aDoorW4
namespace Go.Proofs.Qxb6603961aDoor
open Go.RowKit Nb

def sgn (n : Bool) (m : Nat) : Int := if n = true then -(m : Int) else (m : Int)
def numS (p : Int) : ByteArray := ofl (Lib.decDigits p.natAbs)
theorem IsDec.val {s : ByteArray} {m : Nat} (h : IsDec s m) : val 0 (bl s) = m := by rw [show bl s = _ from h, val_dec]
theorem IsDec.dig {s : ByteArray} {m : Nat} (h : IsDec s m) : allDig (bl s) = true := by rw [show bl s = _ from h]; exact dec_dig m
theorem dec_len_le {m n : Nat} (h : m ≤ n) : (Lib.decDigits m).length ≤ (Lib.decDigits n).length := by
  rcases Nat.lt_or_ge (Lib.decDigits n).length (Lib.decDigits m).length with h' | h'
  · have := dec_len h'
    omega
  · exact h'
theorem IsDec.size_le {a b : ByteArray} {m n : Nat} (ha : IsDec a m) (hb : IsDec b n) (h : m ≤ n) : a.size ≤ b.size := by
  rw [← bl_len, ← bl_len, show bl a = _ from ha, show bl b = _ from hb]
  exact dec_len_le h
theorem dec_ne48 {n : Nat} (h : 0 < n) : ((ofl (Lib.decDigits n)).toList == [48]) = false := by
  rw [ByteArray.toList_eq, beq_eq_false_iff_ne]
  intro e
  have : Lib.decDigits n = [48] := e
  have := dec_eq_zero n this
  omega

set_option maxHeartbeats 1000000 in
theorem signedAdd_any (an bn : Bool) (a b : ByteArray) (m n : Nat) (w : World) (ha : IsDec a m) (hb : IsDec b n) (hsa : a.size ≤ 1048577) (hsb : b.size ≤ 1048577) :
    Calls Tryd.prog 18 #[.bool an, .string a, .bool bn, .string b] w fun e w' => e = .returned (.tuple #[.bool (decide (sgn an m + sgn bn n < 0)), .string (numS (sgn an m + sgn bn n))]) ∧ Below w.heap.size w w' := by
  have hadd := fun W => magAdd_any a b W ha.dig hb.dig hsa hsb
  have hcmp := fun W => magCmp_any a b m n W ha hb (by omega) (by omega)
  rw [ha.val, hb.val] at hadd
  unfold numS
  cases an <;> cases bn
  · rw [show decide (sgn false m + sgn false n < 0) = false from decide_eq_false (by show ¬ ((m : Int) + (n : Int) < 0); omega), show (sgn false m + sgn false n).natAbs = m + n from by show ((m : Int) + (n : Int)).natAbs = m + n; omega]
    clear hsa hsb hcmp ha hb
    generalize ofl (Lib.decDigits (m + n)) = R at *
    go_enter Tryd.func18, Tryd.ntmps18
    go_wp2_with (go_at_call 35; refine (hadd _).mono ?_; rintro e w1 ⟨rfl, hb1⟩)
    go_ret2
    exact ⟨rfl, hb1⟩
  · rcases Nat.lt_trichotomy m n with h | h | h
    · have hsub := fun W => magSub_any b a W hb.dig ha.dig hsb (ha.size_le hb (by omega)) (by rw [ha.val, hb.val]; omega)
      rw [ha.val, hb.val] at hsub
      rw [cmp_lt h] at hcmp
      rw [show decide (sgn false m + sgn true n < 0) = true from decide_eq_true (by show (m : Int) + -(n : Int) < 0; omega), show (sgn false m + sgn true n).natAbs = n - m from by show ((m : Int) + -(n : Int)).natAbs = n - m; omega]
      clear hsa hsb hadd ha hb h
      generalize ofl (Lib.decDigits (n - m)) = R at *
      go_enter Tryd.func18, Tryd.ntmps18
      go_wp2_with (first | (go_at_call 36; refine (hcmp _).mono ?_; rintro e w1 ⟨rfl, hb1⟩) | (go_at_call 37; refine (hsub _).mono ?_; rintro e w2 ⟨rfl, hb2⟩))
      go_ret2
      exact ⟨rfl, below_up hb1 hb2⟩
    · subst h
      rw [cmp_eq] at hcmp
      rw [show decide (sgn false m + sgn true m < 0) = false from decide_eq_false (by show ¬ ((m : Int) + -(m : Int) < 0); omega), show (sgn false m + sgn true m).natAbs = 0 from by show ((m : Int) + -(m : Int)).natAbs = 0; omega, dec_zero]
      clear hsa hsb hadd ha hb
      go_enter Tryd.func18, Tryd.ntmps18
      go_wp2_with (go_at_call 36; refine (hcmp _).mono ?_; rintro e w1 ⟨rfl, hb1⟩)
      go_ret2
      exact ⟨rfl, hb1⟩
    · have hsub := fun W => magSub_any a b W ha.dig hb.dig hsa (hb.size_le ha (by omega)) (by rw [ha.val, hb.val]; omega)
      rw [ha.val, hb.val] at hsub
      rw [cmp_gt h] at hcmp
      rw [show decide (sgn false m + sgn true n < 0) = false from decide_eq_false (by show ¬ ((m : Int) + -(n : Int) < 0); omega), show (sgn false m + sgn true n).natAbs = m - n from by show ((m : Int) + -(n : Int)).natAbs = m - n; omega]
      clear hsa hsb hadd ha hb h
      generalize ofl (Lib.decDigits (m - n)) = R at *
      go_enter Tryd.func18, Tryd.ntmps18
      go_wp2_with (first | (go_at_call 36; refine (hcmp _).mono ?_; rintro e w1 ⟨rfl, hb1⟩) | (go_at_call 37; refine (hsub _).mono ?_; rintro e w2 ⟨rfl, hb2⟩))
      go_ret2
      exact ⟨rfl, below_up hb1 hb2⟩
  · rcases Nat.lt_trichotomy m n with h | h | h
    · have hsub := fun W => magSub_any b a W hb.dig ha.dig hsb (ha.size_le hb (by omega)) (by rw [ha.val, hb.val]; omega)
      rw [ha.val, hb.val] at hsub
      rw [cmp_lt h] at hcmp
      rw [show decide (sgn true m + sgn false n < 0) = false from decide_eq_false (by show ¬ (-(m : Int) + (n : Int) < 0); omega), show (sgn true m + sgn false n).natAbs = n - m from by show (-(m : Int) + (n : Int)).natAbs = n - m; omega]
      clear hsa hsb hadd ha hb h
      generalize ofl (Lib.decDigits (n - m)) = R at *
      go_enter Tryd.func18, Tryd.ntmps18
      go_wp2_with (first | (go_at_call 36; refine (hcmp _).mono ?_; rintro e w1 ⟨rfl, hb1⟩) | (go_at_call 37; refine (hsub _).mono ?_; rintro e w2 ⟨rfl, hb2⟩))
      go_ret2
      exact ⟨rfl, below_up hb1 hb2⟩
    · subst h
      rw [cmp_eq] at hcmp
      rw [show decide (sgn true m + sgn false m < 0) = false from decide_eq_false (by show ¬ (-(m : Int) + (m : Int) < 0); omega), show (sgn true m + sgn false m).natAbs = 0 from by show (-(m : Int) + (m : Int)).natAbs = 0; omega, dec_zero]
      clear hsa hsb hadd ha hb
      go_enter Tryd.func18, Tryd.ntmps18
      go_wp2_with (go_at_call 36; refine (hcmp _).mono ?_; rintro e w1 ⟨rfl, hb1⟩)
      go_ret2
      exact ⟨rfl, hb1⟩
    · have hsub := fun W => magSub_any a b W ha.dig hb.dig hsa (hb.size_le ha (by omega)) (by rw [ha.val, hb.val]; omega)
      rw [ha.val, hb.val] at hsub
      rw [cmp_gt h] at hcmp
      rw [show decide (sgn true m + sgn false n < 0) = true from decide_eq_true (by show -(m : Int) + (n : Int) < 0; omega), show (sgn true m + sgn false n).natAbs = m - n from by show (-(m : Int) + (n : Int)).natAbs = m - n; omega]
      clear hsa hsb hadd ha hb h
      generalize ofl (Lib.decDigits (m - n)) = R at *
      go_enter Tryd.func18, Tryd.ntmps18
      go_wp2_with (first | (go_at_call 36; refine (hcmp _).mono ?_; rintro e w1 ⟨rfl, hb1⟩) | (go_at_call 37; refine (hsub _).mono ?_; rintro e w2 ⟨rfl, hb2⟩))
      go_ret2
      exact ⟨rfl, below_up hb1 hb2⟩
  · rcases Nat.eq_zero_or_pos (m + n) with h | h
    · rw [h] at hadd
      rw [show decide (sgn true m + sgn true n < 0) = false from decide_eq_false (by show ¬ (-(m : Int) + -(n : Int) < 0); omega), show (sgn true m + sgn true n).natAbs = 0 from by show (-(m : Int) + -(n : Int)).natAbs = 0; omega]
      rw [dec_zero] at hadd ⊢
      clear hsa hsb hcmp ha hb
      go_enter Tryd.func18, Tryd.ntmps18
      go_wp2_with (go_at_call 35; refine (hadd _).mono ?_; rintro e w1 ⟨rfl, hb1⟩)
      go_ret2
      exact ⟨rfl, hb1⟩
    · rw [show decide (sgn true m + sgn true n < 0) = true from decide_eq_true (by show -(m : Int) + -(n : Int) < 0; omega), show (sgn true m + sgn true n).natAbs = m + n from by show (-(m : Int) + -(n : Int)).natAbs = m + n; omega]
      have hne := dec_ne48 h
      clear hsa hsb hcmp ha hb h
      generalize ofl (Lib.decDigits (m + n)) = R at *
      go_enter Tryd.func18, Tryd.ntmps18
      go_wp2_with (go_at_call 35; refine (hadd _).mono ?_; rintro e w1 ⟨rfl, hb1⟩)
      go_ret2
      exact ⟨rfl, hb1⟩
end Go.Proofs.Qxb6603961aDoor
