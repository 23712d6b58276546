/-
  Seat b6603961aD: the walk of zzCanonicalModel: plain facts.
-/
import Derived.Test.Qxb6603961aDoorOut
namespace Go.Proofs.Qxb6603961aDoor
open Go.RowKit Nb

def canV : Option Parts → Value
  | none => .tuple #[.string ⟨#[]⟩, .bool false]
  | some P => .tuple #[.string (ofl (canon P)), .bool true]
theorem bl_append (a b : ByteArray) : bl (a ++ b) = bl a ++ bl b := by
  unfold bl
  rw [ByteArray.data_append, Array.toList_append]
theorem rstrip_nil : rstrip [] = [] := rfl
theorem rstrip_zero (l : List UInt8) : rstrip (l ++ [48]) = rstrip l := by
  unfold rstrip
  rw [List.reverse_append]
  rfl
theorem rstrip_other (l : List UInt8) (c : UInt8) (h : c ≠ 48) : rstrip (l ++ [c]) = l ++ [c] := by
  unfold rstrip
  rw [List.reverse_append]
  show ((c :: l.reverse).dropWhile (· == 48)).reverse = _
  rw [List.dropWhile_cons_of_neg (by simp [h])]
  simp
theorem drop_ne {m : List UInt8} {c : UInt8} (h : c ∈ m) (hc : c ≠ 48) : m.dropWhile (· == 48) ≠ [] := by
  induction m with
  | nil => cases h
  | cons d r ih =>
    by_cases hd : d = 48
    · rw [List.dropWhile_cons_of_pos (by simp [hd])]
      rcases List.mem_cons.1 h with e | e
      · exact absurd (e.trans hd) hc
      · exact ih e
    · rw [List.dropWhile_cons_of_neg (by simp [hd])]
      simp
theorem strip_ne_rstrip {l : List UInt8} (h : l ≠ []) (h0 : ∀ c r, l = c :: r → c ≠ 48) : rstrip l ≠ [] := by
  cases l with
  | nil => exact absurd rfl h
  | cons c r =>
    intro e
    unfold rstrip at e
    exact drop_ne (m := (c :: r).reverse) (c := c) (by simp) (h0 c r rfl) (List.reverse_eq_nil_iff.1 e)
/-- The zeros ahead are k when the byte at k is no zero. -/
theorem lead_of {l : List UInt8} {k : Nat} {c : UInt8} (hs : strip l = strip (l.drop k)) (hd : l.drop k = c :: l.drop (k + 1)) (hc : c ≠ 48) (hk : k ≤ l.length) : strip l = l.drop k ∧ lead l = k := by
  have h1 : strip l = l.drop k := by rw [hs, hd, strip_cons, if_neg hc]
  refine ⟨h1, ?_⟩
  unfold lead
  rw [h1, List.length_drop]
  omega
/-- What the sum of the powers is. -/
theorem pow_sum (a f : List UInt8) (en : Bool) (x : List UInt8) (mm : Int) (hmm : mm = (a.length : Int) - 1 - (lead (a ++ f) : Int)) :
    sgn (en && decide (0 < val 0 x)) (val 0 x) + sgn (decide (mm < 0)) mm.natAbs = powOf a f en x := by
  have h1 : sgn (en && decide (0 < val 0 x)) (val 0 x) = expo en x := by
    unfold sgn expo
    cases en
    · rfl
    · rcases Nat.eq_zero_or_pos (val 0 x) with h | h
      · rw [h]; rfl
      · rw [decide_eq_true h]; rfl
  have h2 : sgn (decide (mm < 0)) mm.natAbs = mm := by
    unfold sgn
    by_cases h : mm < 0
    · rw [if_pos (decide_eq_true h)]; omega
    · rw [if_neg (by rw [decide_eq_false h]; decide)]; omega
  rw [h1, h2, hmm]
  rfl
theorem dec_two {n : Nat} (h : (Lib.decDigits n).length ≤ 2) : n < 100 := by
  have := val_lt _ (dec_dig n)
  rw [val_dec] at this
  have h2 : 10 ^ (Lib.decDigits n).length ≤ 10 ^ 2 := Nat.pow_le_pow_right (by decide) h
  omega
theorem dec_more {n : Nat} (h : ¬ (Lib.decDigits n).length ≤ 2) : 100 ≤ n := by
  rcases Nat.lt_or_ge n 100 with h' | h'
  · exfalso
    by_cases h10 : n < 10
    · rw [dec_small n h10, List.length_singleton] at h
      omega
    · rw [Lib.decDigits, dif_neg h10, dec_small _ (by omega), List.length_append, List.length_singleton, List.length_singleton] at h
      omega
  · exact h'
theorem layout_sci {n : Bool} {ds : List UInt8} {p : Int} (h : ¬ (-6 ≤ p ∧ p ≤ 20)) : layout n ds p = sg n ++ (ds.take 1 ++ ((if 1 < ds.length then 46 :: ds.drop 1 else []) ++ 101 :: (if p < 0 then 45 else 43) :: Lib.decDigits p.natAbs)) := by
  unfold layout
  rw [if_pos (by omega), sciT_itoa]
theorem layout_plain {n : Bool} {ds : List UInt8} {p : Int} (h : -6 ≤ p ∧ p ≤ 20) : layout n ds p = sg n ++ plainB ds (p + 1) := by
  unfold layout
  rw [if_neg (by omega)]
  rfl
theorem canon_some {n en : Bool} {a f x ds : List UInt8} {p : Int} (hds : rstrip (strip (a ++ f)) = ds) (h : ds ≠ []) (hp : powOf a f en x = p) : canon (n, a, f, en, x) = layout n ds p := by
  unfold canon
  show (if rstrip (strip (a ++ f)) = [] then [48] else layout n (rstrip (strip (a ++ f))) (powOf a f en x)) = _
  rw [hds, if_neg h, hp]
theorem canon_zero {n en : Bool} {a f x : List UInt8} (h : strip (a ++ f) = []) : canon (n, a, f, en, x) = [48] := by
  unfold canon
  show (if rstrip (strip (a ++ f)) = [] then [48] else layout n (rstrip (strip (a ++ f))) (powOf a f en x)) = _
  rw [h, if_pos rstrip_nil]
theorem dec_len_pow {n K : Nat} (h : n < 10 ^ K) (hK : 0 < K) : (Lib.decDigits n).length ≤ K := by
  rcases Nat.eq_zero_or_pos n with h0 | h0
  · subst h0
    rw [dec_zero, List.length_singleton]
    omega
  · cases hd : Lib.decDigits n with
    | nil => exact absurd hd (dec_ne n)
    | cons c r =>
      have h1 := val_head c r (by have := dec_dig n; rw [hd] at this; exact ((allDig_cons _ _).1 this).1) (dec_head n h0 c r hd)
      rw [← hd, val_dec] at h1
      have h2 : 10 ^ r.length < 10 ^ K := Nat.lt_of_le_of_lt h1 h
      have h3 := (Nat.pow_lt_pow_iff_right (by decide : 1 < 10)).1 h2
      rw [List.length_cons]
      omega
theorem sgn_le (b : Bool) (m : Nat) : (sgn b m).natAbs ≤ m := by
  unfold sgn
  split <;> omega
theorem pow_size (b c : Bool) (x : List UInt8) (mm : Int) (hx : allDig x = true) (h : mm.natAbs ≤ 1048577) : (Lib.decDigits (sgn b (val 0 x) + sgn c mm.natAbs).natAbs).length ≤ x.length + 8 := by
  apply dec_len_pow _ (by omega)
  have h1 := sgn_le b (val 0 x)
  have h2 := sgn_le c mm.natAbs
  have h3 := val_lt x hx
  have h4 : 10 ^ x.length ≤ 10 ^ (x.length + 7) := Nat.pow_le_pow_right (by decide) (by omega)
  have h5 : 10 ^ 7 ≤ 10 ^ (x.length + 7) := Nat.pow_le_pow_right (by decide) (by omega)
  have h6 : 10 ^ (x.length + 8) = 10 ^ (x.length + 7) * 10 := Nat.pow_succ ..
  rw [h6]
  generalize 10 ^ (x.length + 7) = P at *
  generalize 10 ^ x.length = Q at *
  omega
theorem sciL (n : Bool) (DS PS : ByteArray) (pow : Int) (LB : List UInt8) (h : ¬ (-6 ≤ pow ∧ pow ≤ 20)) (h0 : 0 < DS.size) (hP : bl PS = Lib.decDigits pow.natAbs)
    (hLB : sg n ++ [DS[0]] ++ (if 1 < DS.size then 46 :: (bl DS).drop 1 else []) = LB) : LB ++ [101] ++ [if pow < 0 then 45 else 43] ++ bl PS = layout n (bl DS) pow := by
  have e1 : (bl DS).take 1 = [DS[0]] := by
    have := bl_drop DS 0 h0
    rw [List.drop_zero] at this
    rw [this]
    rfl
  rw [layout_sci h, ← hLB, hP, e1, bl_len]
  generalize Lib.decDigits pow.natAbs = D
  generalize (if pow < 0 then (45 : UInt8) else 43) = S
  generalize (if 1 < DS.size then 46 :: (bl DS).drop 1 else []) = T
  generalize DS[0] = c
  generalize sg n = N
  simp only [List.append_assoc, List.cons_append, List.nil_append]
theorem rows_nextD {ds X : List UInt8} {pow lo hi q : Int} {j : Nat} {B : UInt8} (hB : at1 ds (pow - q) = B) (hq : q = hi - (j : Int)) (hd : q = 0 ∧ lo < 0) : X ++ rows ds pow lo hi j ++ [B] ++ [46] = X ++ rows ds pow lo hi (j + 1) := by
  show _ = X ++ (rows ds pow lo hi j ++ cellq ds pow lo (hi - j))
  unfold cellq
  rw [← hq, hB, if_pos hd]
  simp only [List.append_assoc, List.cons_append, List.nil_append]
theorem rows_nextN {ds X : List UInt8} {pow lo hi q : Int} {j : Nat} {B : UInt8} (hB : at1 ds (pow - q) = B) (hq : q = hi - (j : Int)) (hd : ¬ (q = 0 ∧ lo < 0)) : X ++ rows ds pow lo hi j ++ [B] = X ++ rows ds pow lo hi (j + 1) := by
  show _ = X ++ (rows ds pow lo hi j ++ cellq ds pow lo (hi - j))
  unfold cellq
  rw [← hq, hB, if_neg hd, List.append_assoc]
theorem at1_in (DS : ByteArray) (k : Nat) (h : k < DS.size) : at1 (bl DS) (k : Int) = DS[k] := by
  unfold at1
  rw [if_pos (by rw [bl_len]; omega), List.getD_eq_getElem?_getD, Int.toNat_natCast, List.getElem?_eq_getElem (by rw [bl_len]; exact h)]
  rfl
theorem at1_out (DS : ByteArray) (k : Int) (h : ¬ (0 ≤ k ∧ k < (DS.size : Int))) : at1 (bl DS) k = 48 := by
  unfold at1
  rw [if_neg (by rw [bl_len]; exact h)]
end Go.Proofs.Qxb6603961aDoor
