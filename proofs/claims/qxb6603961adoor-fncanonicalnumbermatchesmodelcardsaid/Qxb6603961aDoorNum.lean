/-
  Seat b6603961aD: decimal numerals: no Go in sight.
-/
import Derived.Lib.ItoaNum
import Derived.Lib.TrimByte
namespace Go.Proofs.Qxb6603961aDoor.Nb

def isDig (c : UInt8) : Bool := decide (48 ≤ c.toNat) && decide (c.toNat ≤ 57)
theorem isDig_iff (c : UInt8) : isDig c = true ↔ 48 ≤ c.toNat ∧ c.toNat ≤ 57 := by
  unfold isDig
  rw [Bool.and_eq_true, decide_eq_true_iff, decide_eq_true_iff]
def allDig (l : List UInt8) : Bool := l.all isDig
theorem allDig_cons (c : UInt8) (l : List UInt8) : allDig (c :: l) = true ↔ isDig c = true ∧ allDig l = true := by
  unfold allDig
  rw [List.all_cons, Bool.and_eq_true]
theorem allDig_append (a b : List UInt8) : allDig (a ++ b) = true ↔ allDig a = true ∧ allDig b = true := by
  unfold allDig
  rw [List.all_append, Bool.and_eq_true]
theorem allDig_nil : allDig [] = true := rfl
def dig (c : UInt8) : Nat := c.toNat - 48
theorem dig_lt (c : UInt8) (h : isDig c = true) : dig c < 10 := by
  have := (isDig_iff c).1 h
  unfold dig
  omega
theorem ofNat_dig (c : UInt8) (h : isDig c = true) : UInt8.ofNat (48 + dig c) = c := by
  have := (isDig_iff c).1 h
  unfold dig
  rw [show 48 + (c.toNat - 48) = c.toNat from by omega]
  exact UInt8.ofNat_toNat
theorem toNat_dig (d : Nat) (h : d < 10) : (UInt8.ofNat (48 + d)).toNat = 48 + d := by
  rw [UInt8.toNat_ofNat']
  omega
theorem dig_ofNat (d : Nat) (h : d < 10) : dig (UInt8.ofNat (48 + d)) = d ∧ isDig (UInt8.ofNat (48 + d)) = true := by
  have e := toNat_dig d h
  refine ⟨by unfold dig; rw [e]; omega, (isDig_iff _).2 (by rw [e]; omega)⟩

/-- The number that digits write, behind a. -/
def val (a : Nat) : List UInt8 → Nat
  | [] => a
  | c :: r => val (a * 10 + dig c) r
theorem val_append (a : Nat) (l m : List UInt8) : val a (l ++ m) = val (val a l) m := by
  induction l generalizing a with
  | nil => rfl
  | cons c r ih =>
    show val (a * 10 + dig c) (r ++ m) = val (val (a * 10 + dig c) r) m
    rw [ih]
theorem val_acc (a : Nat) (l : List UInt8) : val a l = a * 10 ^ l.length + val 0 l := by
  induction l generalizing a with
  | nil =>
    show a = a * 10 ^ 0 + 0
    rw [Nat.pow_zero, Nat.mul_one, Nat.add_zero]
  | cons c r ih =>
    show val (a * 10 + dig c) r = a * 10 ^ (r.length + 1) + val (0 * 10 + dig c) r
    rw [ih (a * 10 + dig c), ih (0 * 10 + dig c), Nat.pow_succ]
    generalize 10 ^ r.length = P
    rw [Nat.add_mul, Nat.zero_mul, Nat.zero_add, Nat.mul_assoc a 10, Nat.mul_comm 10 P, Nat.add_assoc]
theorem val_snoc (a : Nat) (l : List UInt8) (c : UInt8) : val a (l ++ [c]) = val a l * 10 + dig c := by
  rw [val_append]; rfl
theorem val_lt (l : List UInt8) (h : allDig l = true) : val 0 l < 10 ^ l.length := by
  induction l with
  | nil =>
    rw [List.length_nil, Nat.pow_zero]
    exact Nat.one_pos
  | cons c r ih =>
    obtain ⟨h1, h2⟩ := (allDig_cons c r).1 h
    have hd := dig_lt c h1
    have hi := ih h2
    show val (0 * 10 + dig c) r < 10 ^ (r.length + 1)
    rw [val_acc, Nat.pow_succ]
    generalize 10 ^ r.length = P at hi ⊢
    have h3 : (0 * 10 + dig c) * P ≤ 9 * P := Nat.mul_le_mul_right _ (by omega)
    omega

/-- Leading zeros off. -/
def strip (l : List UInt8) : List UInt8 := l.dropWhile (· == 48)
/-- .. and "0" where none is left. -/
def trimZ (l : List UInt8) : List UInt8 := if strip l = [] then [48] else strip l
theorem strip_cons (c : UInt8) (l : List UInt8) : strip (c :: l) = if c = 48 then strip l else c :: l := by
  unfold strip
  by_cases h : c = 48
  · rw [if_pos h, List.dropWhile_cons_of_pos (by simp [h])]
  · rw [if_neg h, List.dropWhile_cons_of_neg (by simp [h])]
theorem strip_val (l : List UInt8) : val 0 (strip l) = val 0 l := by
  induction l with
  | nil => rfl
  | cons c r ih =>
    rw [strip_cons]
    split
    · rename_i h
      rw [ih, h]
      rfl
    · rfl
theorem strip_dig (l : List UInt8) (h : allDig l = true) : allDig (strip l) = true := by
  induction l with
  | nil => rfl
  | cons c r ih =>
    rw [strip_cons]
    split
    · exact ih ((allDig_cons c r).1 h).2
    · exact h
theorem strip_head (l : List UInt8) : ∀ c r, strip l = c :: r → c ≠ 48 := by
  induction l with
  | nil => intro c r h; simp [strip] at h
  | cons d s ih =>
    intro c r h
    rw [strip_cons] at h
    split at h
    · exact ih c r h
    · rename_i hd
      cases h
      exact hd
theorem strip_le (l : List UInt8) : (strip l).length ≤ l.length := by
  induction l with
  | nil => exact Nat.le_refl _
  | cons c r ih =>
    rw [strip_cons]
    split
    · rw [List.length_cons]; omega
    · exact Nat.le_refl _

/-! ### The numeral -/
theorem dec_small (n : Nat) (h : n < 10) : Lib.decDigits n = [UInt8.ofNat (48 + n)] := by rw [Lib.decDigits, dif_pos h]
theorem dec_snoc (n d : Nat) (hn : 0 < n) (hd : d < 10) : Lib.decDigits (n * 10 + d) = Lib.decDigits n ++ [UInt8.ofNat (48 + d)] := by
  rw [Lib.decDigits, dif_neg (by omega), show (n * 10 + d) / 10 = n from by omega, show (n * 10 + d) % 10 = d from by omega]
theorem val_pos (c : UInt8) (r : List UInt8) (h : isDig c = true) (h0 : c ≠ 48) : 0 < val 0 (c :: r) := by
  have h1 := (isDig_iff c).1 h
  have h2 : c.toNat ≠ 48 := fun e => h0 (by apply UInt8.toNat_inj.1; rw [e]; rfl)
  show 0 < val (0 * 10 + dig c) r
  rw [val_acc]
  have hp : 1 ≤ 10 ^ r.length := Nat.one_le_pow _ _ (by decide)
  generalize 10 ^ r.length = P at hp ⊢
  have h3 : 1 * P ≤ (0 * 10 + dig c) * P := Nat.mul_le_mul_right _ (by unfold dig; omega)
  omega
/-- A digit text with no leading zero is its number's numeral. -/
theorem dec_val (l : List UInt8) (h : allDig l = true) (hne : l ≠ []) (h0 : ∀ c r, l = c :: r → c ≠ 48) : Lib.decDigits (val 0 l) = l := by
  generalize hm : l.reverse = m
  have hl : l = m.reverse := by rw [← hm, List.reverse_reverse]
  subst hl
  clear hm
  induction m with
  | nil => exact absurd rfl hne
  | cons c r ih =>
    rw [List.reverse_cons] at h h0 ⊢
    obtain ⟨h1, h2⟩ := (allDig_append _ _).1 h
    have hc : isDig c = true := ((allDig_cons c []).1 h2).1
    rw [val_snoc]
    cases hr : r.reverse with
    | nil =>
      rw [show val 0 ([] : List UInt8) * 10 + dig c = dig c from by show 0 * 10 + dig c = dig c; omega, dec_small _ (dig_lt c hc), ofNat_dig c hc]
      rfl
    | cons d s =>
      have hd0 : d ≠ 48 := h0 d (s ++ [c]) (by rw [hr]; rfl)
      have hd : isDig d = true := by rw [hr] at h1; exact ((allDig_cons d s).1 h1).1
      have hp := val_pos d s hd hd0
      rw [hr] at ih
      have ih' := ih (by rw [← hr]; exact h1) (by simp) (fun c' r' e => by cases e; exact hd0)
      rw [dec_snoc _ _ hp (dig_lt c hc), ih', ofNat_dig c hc]
theorem trimZ_dec (l : List UInt8) (h : allDig l = true) : trimZ l = Lib.decDigits (val 0 l) := by
  unfold trimZ
  split
  · rename_i e
    rw [← strip_val, e]
    exact (dec_small 0 (by decide)).symm
  · rename_i e
    rw [← strip_val, dec_val _ (strip_dig l h) e (strip_head l)]
theorem dec_dig (n : Nat) : allDig (Lib.decDigits n) = true := by
  induction n using Nat.strongRecOn with
  | _ n ih =>
    by_cases h : n < 10
    · rw [dec_small n h]
      exact (allDig_cons _ _).2 ⟨(dig_ofNat n h).2, rfl⟩
    · rw [Lib.decDigits, dif_neg h]
      exact (allDig_append _ _).2 ⟨ih (n / 10) (by omega), (allDig_cons _ _).2 ⟨(dig_ofNat _ (Nat.mod_lt _ (by decide))).2, rfl⟩⟩
theorem val_dec (n : Nat) : val 0 (Lib.decDigits n) = n := by
  induction n using Nat.strongRecOn with
  | _ n ih =>
    by_cases h : n < 10
    · rw [dec_small n h]
      show 0 * 10 + dig (UInt8.ofNat (48 + n)) = n
      rw [(dig_ofNat n h).1]
      omega
    · rw [Lib.decDigits, dif_neg h, val_snoc, ih (n / 10) (by omega), (dig_ofNat _ (Nat.mod_lt _ (by decide))).1]
      omega
theorem dec_ne (n : Nat) : Lib.decDigits n ≠ [] := by
  rw [Lib.decDigits]
  split
  · simp
  · simp
theorem dec_head (n : Nat) (hn : 0 < n) : ∀ c r, Lib.decDigits n = c :: r → c ≠ 48 := by
  induction n using Nat.strongRecOn with
  | _ n ih =>
    intro c r e
    by_cases h : n < 10
    · rw [dec_small n h] at e
      cases e
      intro hh
      have := congrArg UInt8.toNat hh
      rw [toNat_dig n h] at this
      have : 48 + n = 48 := this
      omega
    · rw [Lib.decDigits, dif_neg h] at e
      cases hq : Lib.decDigits (n / 10) with
      | nil => exact absurd hq (dec_ne _)
      | cons d s =>
        rw [hq, List.cons_append] at e
        obtain ⟨e1, -⟩ := List.cons.inj e
        rw [← e1]
        exact ih (n / 10) (by omega) (by omega) d s hq
theorem dec_zero : Lib.decDigits 0 = [48] := dec_small 0 (by decide)
theorem dec_eq_zero (n : Nat) (h : Lib.decDigits n = [48]) : n = 0 := by
  rcases Nat.eq_zero_or_pos n with h0 | h0
  · exact h0
  · exact absurd rfl (dec_head n h0 48 [] h)
theorem dec_trim (l : List UInt8) (h : allDig l = true) (hp : 0 < val 0 l) : strip l = Lib.decDigits (val 0 l) := by
  have := trimZ_dec l h
  unfold trimZ at this
  split at this
  · have := dec_eq_zero _ this.symm
    omega
  · exact this
end Go.Proofs.Qxb6603961aDoor.Nb
