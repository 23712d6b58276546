/-
  The plain law of seat b6602329aD: no Go in sight. What parsePositive answers, as a function on bytes.
-/
import Derived.Lib.ParseIntB
import Derived.Lib.SlTrimSet
namespace Go.Proofs.Qxb6602329aDoor.Pp

/-- An ASCII digit. -/
def isDig (c : UInt8) : Bool := decide (48 ≤ c.toNat ∧ c.toNat ≤ 57)
def allDig (l : List UInt8) : Bool := l.all isDig
def step (a : Nat) (c : UInt8) : Nat := a * 10 + (c.toNat - 48)
/-- What the digits spell, behind 'acc'. -/
def val (acc : Nat) (l : List UInt8) : Nat := l.foldl step acc
theorem val_nil (a : Nat) : val a [] = a := by unfold val; rw [List.foldl_nil]
theorem val_cons (a : Nat) (c : UInt8) (r : List UInt8) : val a (c :: r) = val (a * 10 + (c.toNat - 48)) r := by
  unfold val
  rw [List.foldl_cons, step]

def wantB : List UInt8 := [119, 97, 110, 116, 32, 97, 32, 119, 104, 111, 108, 101, 32, 110, 117, 109, 98, 101, 114]
def rangeB : List UInt8 := [111, 117, 116, 32, 111, 102, 32, 114, 97, 110, 103, 101]
def mustB : List UInt8 := [109, 117, 115, 116, 32, 98, 101, 32, 49, 32, 111, 114, 32, 109, 111, 114, 101]

def digitsB : List UInt8 := [48, 49, 50, 51, 52, 53, 54, 55, 56, 57]

theorem digits_contains (c : UInt8) : digitsB.contains c = isDig c := by
  have h : ∀ n : Fin 256, digitsB.contains (UInt8.ofNat n.val) = isDig (UInt8.ofNat n.val) := by decide +kernel
  have := h ⟨c.toNat, c.toNat_lt⟩
  simpa using this

theorem dropWhile_nil_iff {p : UInt8 → Bool} : ∀ l : List UInt8, l.dropWhile p = [] ↔ l.all p = true
  | [] => by simp
  | c :: r => by
    cases h : p c
    · simp [List.dropWhile, h]
    · simp [List.dropWhile, h, dropWhile_nil_iff r]

theorem head_dropWhile {p : UInt8 → Bool} : ∀ (l : List UInt8) (c : UInt8) (r : List UInt8), l.dropWhile p = c :: r → p c = false
  | [], c, r, h => by simp at h
  | b :: t, c, r, h => by
    cases hb : p b
    · rw [List.dropWhile_cons, hb] at h
      simp at h
      rw [← h.1]; exact hb
    · rw [List.dropWhile_cons, hb] at h
      exact head_dropWhile t c r (by simpa using h)

theorem trim_nil_iff (l : List UInt8) : (Lib.trimS l digitsB).isEmpty = allDig l := by
  have hp : (fun b => digitsB.contains b) = isDig := funext digits_contains
  have key : Lib.trimS l digitsB = [] ↔ l.all isDig = true := by
    unfold Lib.trimS Lib.trimLeftS Lib.trimRightS
    rw [hp, dropWhile_nil_iff, List.all_reverse]
    constructor
    · intro h
      cases hd : l.reverse.dropWhile isDig with
      | nil => rw [dropWhile_nil_iff, List.all_reverse] at hd; exact hd
      | cons c r =>
        rw [hd] at h
        have h1 := head_dropWhile _ _ _ hd
        simp [h1] at h
    · intro h
      have : l.reverse.dropWhile isDig = [] := by rw [dropWhile_nil_iff, List.all_reverse]; exact h
      rw [this]; rfl
  rw [Bool.eq_iff_iff, List.isEmpty_iff]
  exact key

theorem isDig_iff (c : UInt8) : isDig c = true ↔ 48 ≤ c.toNat ∧ c.toNat ≤ 57 := by simp [isDig]

theorem val_mono : ∀ (l : List UInt8) (a b : Nat), a ≤ b → val a l ≤ val b l
  | [], _, _, h => by rw [val_nil, val_nil]; exact h
  | c :: r, a, b, h => by rw [val_cons, val_cons]; exact val_mono r _ _ (by omega)
theorem val_ge : ∀ (l : List UInt8) (a : Nat), a ≤ val a l
  | [], a => by rw [val_nil]; exact Nat.le_refl _
  | c :: r, a => by rw [val_cons]; exact Nat.le_trans (by omega) (val_ge r _)

theorem parseUintM_dig (M : Nat) (hM : M < 1844674407370955162) : ∀ (l : List UInt8) (acc : Nat), acc ≤ M → allDig l = true →
    Lib.parseUintM M acc l = if val acc l ≤ M then .ok (val acc l) else .range
  | [], acc, h, _ => by rw [val_nil, if_pos h]; rfl
  | c :: r, acc, h, hd => by
    simp only [allDig, List.all_cons, Bool.and_eq_true] at hd
    have hc := (isDig_iff c).1 hd.1
    have hge := val_ge r (acc * 10 + (c.toNat - 48))
    have e : Lib.parseUintM M acc (c :: r) = if 48 ≤ c.toNat ∧ c.toNat ≤ 57 then if 1844674407370955162 ≤ acc then .range else if M < acc * 10 + (c.toNat - 48) then .range else Lib.parseUintM M (acc * 10 + (c.toNat - 48)) r else Lib.parseUintM M acc (c :: r) := by
      by_cases h1 : 48 ≤ c.toNat ∧ c.toNat ≤ 57
      · rw [if_pos h1]; simp only [Lib.parseUintM, if_pos h1]
      · rw [if_neg h1]
    rw [e, if_pos hc, if_neg (by omega)]
    by_cases hb : M < acc * 10 + (c.toNat - 48)
    · rw [if_pos hb, val_cons, if_neg (by omega)]
    · rw [if_neg hb, parseUintM_dig M hM r _ (by omega) hd.2, val_cons]

/-- ParseInt(s, 10, 32) at a digit text that is not empty. -/
theorem parseIntB_dig (l : List UInt8) (hne : l ≠ []) (hd : allDig l = true) :
    Lib.parseIntB 32 l = if val 0 l < 2147483648 then .ok (val 0 l : Int) else .range := by
  cases l with
  | nil => exact absurd rfl hne
  | cons c r =>
    have hd' := hd
    simp only [allDig, List.all_cons, Bool.and_eq_true] at hd
    have hc := (isDig_iff c).1 hd.1
    have hu : Lib.parseUintB 32 (c :: r) = if val 0 (c :: r) ≤ 4294967295 then .ok (val 0 (c :: r)) else .range := by
      unfold Lib.parseUintB
      rw [if_neg (by simp)]
      exact parseUintM_dig _ (by decide) _ _ (by omega) hd'
    have h43 : ¬ (c.toNat = 43 ∨ c.toNat = 45) := by omega
    have h45 : ¬ (c.toNat = 45) := by omega
    simp only [Lib.parseIntB, if_neg h43]
    simp only [h45, if_false, not_false_eq_true, true_and, false_and]
    rw [hu]
    by_cases h1 : val 0 (c :: r) ≤ 4294967295
    · rw [if_pos h1]
      by_cases h2 : val 0 (c :: r) < 2147483648
      · simp only [if_pos h2]
        rw [if_neg (by omega)]
      · simp only [if_neg h2]
        rw [if_pos (by omega)]
    · rw [if_neg h1, if_neg (by omega)]

theorem parseIntB_nil (B : Nat) : ∀ v, Lib.parseIntB B [] ≠ .ok v := by intro v h; simp [Lib.parseIntB] at h

/-- parsePositive's number and its reason. -/
def num (l : List UInt8) : Int :=
  if allDig l = true ∧ val 0 l < 2147483648 then (val 0 l : Int) else 0
def why (l : List UInt8) : List UInt8 :=
  if allDig l = false then wantB else if l = [] then rangeB else if 2147483648 ≤ val 0 l then rangeB else if val 0 l = 0 then mustB else []

theorem why_not (l : List UInt8) (h : allDig l = false) : num l = 0 ∧ why l = wantB := by simp [num, why, h]
theorem why_nil : num [] = 0 ∧ why [] = rangeB := by simp [num, why, allDig, val_nil]
theorem why_big (l : List UInt8) (h : allDig l = true) (hv : 2147483648 ≤ val 0 l) : num l = 0 ∧ why l = rangeB := by
  unfold num why
  rw [if_neg (by omega), if_neg (by simp [h])]
  refine ⟨rfl, ?_⟩
  split
  · rfl
  · rfl
theorem why_zero (l : List UInt8) (hne : l ≠ []) (h : allDig l = true) (hv : val 0 l = 0) : num l = 0 ∧ why l = mustB := by
  simp [num, why, h, hne, hv]
theorem why_ok (l : List UInt8) (h : allDig l = true) (h0 : 0 < val 0 l) (hv : val 0 l < 2147483648) : num l = (val 0 l : Int) ∧ why l = [] := by
  have hne : l ≠ [] := by rintro rfl; rw [val_nil] at h0; omega
  unfold num why
  rw [if_pos ⟨h, hv⟩, if_neg (by simp [h]), if_neg hne, if_neg (by omega), if_neg (by omega)]
  exact ⟨rfl, rfl⟩

/-- Leading zeros count for nothing. -/
theorem val_zeros : ∀ (l : List UInt8) (k : Nat), (∀ j, j < k → l[j]? = some 48) → val 0 l = val 0 (l.drop k)
  | l, 0, _ => by simp
  | [], k + 1, _ => by simp
  | c :: r, k + 1, h => by
    have h0 := h 0 (by omega)
    simp at h0
    subst h0
    have e : 0 * 10 + ((48 : UInt8).toNat - 48) = 0 := by decide
    rw [val_cons, e, List.drop_succ_cons]
    exact val_zeros r k (fun j hj => by have := h (j + 1) (by omega); simpa using this)

theorem val_pow : ∀ (l : List UInt8) (a : Nat), a * 10 ^ l.length ≤ val a l
  | [], a => by rw [val_nil]; simp
  | c :: r, a => by
    have := val_pow r (a * 10 + (c.toNat - 48))
    rw [val_cons, List.length_cons, Nat.pow_succ]
    have h2 : a * (10 ^ r.length * 10) = (a * 10) * 10 ^ r.length := by rw [Nat.mul_assoc, Nat.mul_comm 10]
    rw [h2]
    exact Nat.le_trans (Nat.mul_le_mul_right _ (by omega)) this

/-- A text whose first digit is not 0 and that has more than ten digits is great. -/
theorem val_long (c : UInt8) (r : List UInt8) (hc : 49 ≤ c.toNat) (h : 10 ≤ r.length) : 10000000000 ≤ val 0 (c :: r) := by
  have h1 := val_pow r (0 * 10 + (c.toNat - 48))
  rw [val_cons]
  have h2 : (10 : Nat) ^ 10 ≤ 10 ^ r.length := Nat.pow_le_pow_right (by omega) h
  have h3 : 1 * 10 ^ r.length ≤ (0 * 10 + (c.toNat - 48)) * 10 ^ r.length := Nat.mul_le_mul_right _ (by omega)
  have h4 : (10 : Nat) ^ 10 = 10000000000 := by decide
  omega
theorem val_pos (c : UInt8) (r : List UInt8) (hc : 49 ≤ c.toNat) : 0 < val 0 (c :: r) := by
  have := val_ge r (0 * 10 + (c.toNat - 48))
  rw [val_cons]; omega

theorem val_snoc : ∀ (l : List UInt8) (a : Nat) (c : UInt8), val a (l ++ [c]) = val a l * 10 + (c.toNat - 48)
  | [], a, c => by rw [List.nil_append, val_cons, val_nil, val_nil]
  | b :: r, a, c => by rw [List.cons_append, val_cons, val_cons, val_snoc r]

theorem val_lt : ∀ (l : List UInt8) (a : Nat), allDig l = true → val a l < (a + 1) * 10 ^ l.length
  | [], a, _ => by rw [val_nil]; simp
  | c :: r, a, h => by
    simp only [allDig, List.all_cons, Bool.and_eq_true] at h
    have hc := (isDig_iff c).1 h.1
    have := val_lt r (a * 10 + (c.toNat - 48)) h.2
    rw [val_cons, List.length_cons, Nat.pow_succ]
    have h2 : (a + 1) * (10 ^ r.length * 10) = ((a + 1) * 10) * 10 ^ r.length := by rw [Nat.mul_assoc, Nat.mul_comm 10]
    rw [h2]
    exact Nat.lt_of_lt_of_le this (Nat.mul_le_mul_right _ (by omega))

end Go.Proofs.Qxb6602329aDoor.Pp
