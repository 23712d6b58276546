/-
  Seat b6603961aD: the canonical form; the position-by-position layout; schoolbook sums: no Go in sight.
-/
import Derived.Test.Qxb6603961aDoorScan
namespace Go.Proofs.Qxb6603961aDoor.Nb

def expo (en : Bool) (x : List UInt8) : Int := if en = true then -(val 0 x : Int) else (val 0 x : Int)
def rstrip (l : List UInt8) : List UInt8 := (l.reverse.dropWhile (· == 48)).reverse
def sg (n : Bool) : List UInt8 := if n = true then [45] else []
def sciT (n : Bool) (ds ex : List UInt8) : List UInt8 := sg n ++ (ds.take 1 ++ ((if 1 < ds.length then 46 :: ds.drop 1 else []) ++ 101 :: ((if ex.head? = some 45 then [] else [43]) ++ ex)))
def plainB (ds : List UInt8) (pt : Int) : List UInt8 :=
  if pt ≤ 0 then 48 :: 46 :: (List.replicate (-pt).toNat 48 ++ ds) else if (ds.length : Int) ≤ pt then ds ++ List.replicate (pt - ds.length).toNat 48 else ds.take pt.toNat ++ 46 :: ds.drop pt.toNat
def plainT (n : Bool) (ds : List UInt8) (pt : Int) : List UInt8 := sg n ++ plainB ds pt
def lead (l : List UInt8) : Nat := l.length - (strip l).length
def powOf (a f : List UInt8) (en : Bool) (x : List UInt8) : Int := expo en x + ((a.length : Int) - 1 - (lead (a ++ f) : Int))
def layout (n : Bool) (ds : List UInt8) (pow : Int) : List UInt8 := if pow < -6 ∨ 20 < pow then sciT n ds (Lib.itoa pow) else plainT n ds (pow + 1)
def canon (P : Parts) : List UInt8 :=
  if rstrip (strip (P.2.1 ++ P.2.2.1)) = [] then [48] else layout P.1 (rstrip (strip (P.2.1 ++ P.2.2.1))) (powOf P.2.1 P.2.2.1 P.2.2.2.1 P.2.2.2.2)

/-! ### sciT at a number -/
theorem itoa_neg {p : Int} (h : p < 0) : Lib.itoa p = 45 :: Lib.decDigits p.natAbs := by unfold Lib.itoa; rw [if_pos h]
theorem itoa_pos {p : Int} (h : 0 ≤ p) : Lib.itoa p = Lib.decDigits p.natAbs := by
  unfold Lib.itoa
  rw [if_neg (by omega), show p.toNat = p.natAbs from by omega]
theorem dec_head45 (n : Nat) : (Lib.decDigits n).head? ≠ some 45 := by
  intro e
  have h := dec_dig n
  cases hd : Lib.decDigits n with
  | nil => rw [hd] at e; cases e
  | cons c r =>
    rw [hd] at e h
    have : c = 45 := Option.some.inj e
    subst this
    exact absurd ((allDig_cons _ _).1 h).1 (by decide)
theorem sciT_itoa (n : Bool) (ds : List UInt8) (p : Int) : sciT n ds (Lib.itoa p) = sg n ++ (ds.take 1 ++ ((if 1 < ds.length then 46 :: ds.drop 1 else []) ++ 101 :: (if p < 0 then 45 else 43) :: Lib.decDigits p.natAbs)) := by
  unfold sciT
  by_cases h : p < 0
  · rw [itoa_neg h, if_pos h, if_pos (show (45 :: Lib.decDigits p.natAbs).head? = some 45 from rfl)]
    rfl
  · rw [itoa_pos (by omega), if_neg h, if_neg (dec_head45 _)]
    rfl

/-! ### Position by position -/
def at1 (ds : List UInt8) (j : Int) : UInt8 := if 0 ≤ j ∧ j < (ds.length : Int) then ds.getD j.toNat 48 else 48
def cellq (ds : List UInt8) (pow lo q : Int) : List UInt8 := at1 ds (pow - q) :: (if q = 0 ∧ lo < 0 then [46] else [])
def rows (ds : List UInt8) (pow lo hi : Int) : Nat → List UInt8
  | 0 => []
  | k + 1 => rows ds pow lo hi k ++ cellq ds pow lo (hi - k)
theorem rows_take {ds : List UInt8} {pow lo : Int} {hi : Nat} (L : List UInt8) (hL : ∀ k, (h : k < L.length) → at1 ds (pow - ((hi : Int) - (k : Int))) = L[k]) : ∀ k, k ≤ L.length → (lo < 0 → k ≤ hi) → rows ds pow lo hi k = L.take k := by
  intro k
  induction k with
  | zero => intros; rfl
  | succ k ih =>
    intro h1 h2
    show rows ds pow lo hi k ++ cellq ds pow lo (hi - k) = _
    rw [ih (by omega) (fun h => by have := h2 h; omega), List.take_add_one, List.getElem?_eq_getElem (by omega)]
    unfold cellq
    rw [hL k (by omega), if_neg]
    · rfl
    · rintro ⟨h3, h4⟩
      have := h2 h4
      omega
theorem rows_dot {ds : List UInt8} {pow lo : Int} {hi : Nat} (L : List UInt8) (hL : ∀ k, (h : k < L.length) → at1 ds (pow - ((hi : Int) - (k : Int))) = L[k]) (hlo : lo < 0) : ∀ j, hi + 1 + j ≤ L.length → rows ds pow lo hi (hi + 1 + j) = L.take (hi + 1) ++ 46 :: (L.drop (hi + 1)).take j := by
  intro j
  induction j with
  | zero =>
    intro h
    show rows ds pow lo hi hi ++ cellq ds pow lo ((hi : Int) - (hi : Int)) = _
    rw [rows_take L hL hi (by omega) (fun _ => Nat.le_refl _), List.take_add_one, List.getElem?_eq_getElem (by omega)]
    unfold cellq
    rw [hL hi (by omega), if_pos ⟨by omega, hlo⟩]
    show _ = _ ++ [L[hi]] ++ [46]
    rw [List.append_assoc]
    rfl
  | succ j ih =>
    intro h
    show rows ds pow lo hi (hi + 1 + j) ++ cellq ds pow lo ((hi : Int) - ((hi + 1 + j : Nat) : Int)) = _
    have hn : L[hi + 1 + j]? = some (L[hi + 1 + j]'(by omega)) := List.getElem?_eq_getElem (by omega)
    rw [ih (by omega), List.take_add_one (l := L.drop (hi + 1)), List.getElem?_drop, hn]
    unfold cellq
    rw [hL (hi + 1 + j) (by omega), if_neg (by rintro ⟨h3, -⟩; omega)]
    simp
theorem rows_law (ds : List UInt8) (hds : ds ≠ []) (pow hi lo : Int) (hhi : hi = if pow < 0 then 0 else pow) (hlo : lo = if pow - ds.length + 1 > 0 then 0 else pow - ds.length + 1) : rows ds pow lo hi (hi - lo + 1).toNat = plainB ds (pow + 1) := by
  have hlen : 0 < ds.length := List.length_pos_iff.2 hds
  unfold plainB
  by_cases hp : pow < 0
  · rw [if_pos hp] at hhi
    subst hhi
    rw [if_neg (by omega)] at hlo
    rw [if_pos (by omega)]
    obtain ⟨m, hm⟩ : ∃ m : Nat, pow = -((m : Int) + 1) := ⟨(-pow - 1).toNat, by omega⟩
    subst hm
    have hr := rows_dot (ds := ds) (pow := -((m : Int) + 1)) (lo := lo) (hi := 0) (List.replicate (m + 1) 48 ++ ds) (fun k h => by
      unfold at1
      by_cases hk : k < m + 1
      · rw [if_neg (by omega), List.getElem_append_left (by rw [List.length_replicate]; exact hk), List.getElem_replicate]
      · rw [List.length_append, List.length_replicate] at h
        rw [if_pos (by omega), List.getElem_append_right (by rw [List.length_replicate]; omega)]
        rw [List.getD_eq_getElem?_getD]
        have e : (-((m : Int) + 1) - (((0 : Nat) : Int) - (k : Int))).toNat = k - (List.replicate (m + 1) (48 : UInt8)).length := by rw [List.length_replicate]; omega
        rw [e, List.getElem?_eq_getElem (by rw [List.length_replicate]; omega)]
        rfl) (by omega) (m + ds.length) (by rw [List.length_append, List.length_replicate]; omega)
    rw [show ((0 : Int) - lo + 1).toNat = 0 + 1 + (m + ds.length) from by omega, show (-(-((m : Int) + 1) + 1)).toNat = m from by omega]
    rw [show ((0 : Nat) : Int) = 0 from rfl] at hr
    rw [hr]
    have e2 : (List.replicate (m + 1) (48 : UInt8) ++ ds).drop (0 + 1) = List.replicate m 48 ++ ds := rfl
    have e3 : (List.replicate (m + 1) (48 : UInt8) ++ ds).take (0 + 1) = [48] := rfl
    rw [e2, e3, List.take_of_length_le (by rw [List.length_append, List.length_replicate]; omega)]
    rfl
  · rw [if_neg hp] at hhi
    obtain ⟨m, hm⟩ : ∃ m : Nat, pow = m := ⟨pow.toNat, by omega⟩
    subst hm
    subst hhi
    rw [if_neg (by omega)]
    by_cases hl : (ds.length : Int) ≤ (m : Int) + 1
    · rw [if_pos hl]
      have hlo0 : lo = 0 := by rw [hlo]; split <;> omega
      clear hlo
      subst hlo0
      have hr := rows_take (ds := ds) (pow := m) (lo := 0) (hi := m) (ds ++ List.replicate (m + 1 - ds.length) 48) (fun k h => by
        unfold at1
        by_cases hk : k < ds.length
        · rw [if_pos (by omega), List.getElem_append_left hk, List.getD_eq_getElem?_getD, show ((m : Int) - ((m : Int) - (k : Int))).toNat = k from by omega, List.getElem?_eq_getElem hk]
          rfl
        · rw [if_neg (by omega), List.getElem_append_right (by omega), List.getElem_replicate]) (m + 1) (by rw [List.length_append, List.length_replicate]; omega) (fun h => by omega)
      rw [show ((m : Int) - 0 + 1).toNat = m + 1 from by omega, hr, List.take_of_length_le (by rw [List.length_append, List.length_replicate]; omega), show ((m : Int) + 1 - (ds.length : Int)).toNat = m + 1 - ds.length from by omega]
    · rw [if_neg hl]
      have hlo0 : lo = (m : Int) - (ds.length : Int) + 1 := by rw [hlo, if_neg (by omega)]
      clear hlo
      have hr := rows_dot (ds := ds) (pow := m) (lo := lo) (hi := m) ds (fun k h => by
        unfold at1
        rw [if_pos (by omega), List.getD_eq_getElem?_getD, show ((m : Int) - ((m : Int) - (k : Int))).toNat = k from by omega, List.getElem?_eq_getElem h]
        rfl) (by omega) (ds.length - m - 1) (by omega)
      rw [show ((m : Int) - lo + 1).toNat = m + 1 + (ds.length - m - 1) from by omega, hr, show ((m : Int) + 1).toNat = m + 1 from by omega, List.take_of_length_le (l := ds.drop (m + 1)) (by rw [List.length_drop]; omega)]

/-! ### Schoolbook -/
def low (k : Nat) (l : List UInt8) : List UInt8 := l.drop (l.length - k)
theorem low_zero (l : List UInt8) : low 0 l = [] := by unfold low; rw [Nat.sub_zero]; exact List.drop_eq_nil_of_le (Nat.le_refl _)
theorem low_all {k : Nat} {l : List UInt8} (h : l.length ≤ k) : low k l = l := by unfold low; rw [show l.length - k = 0 from by omega, List.drop_zero]
theorem low_length {k : Nat} {l : List UInt8} (h : k ≤ l.length) : (low k l).length = k := by unfold low; rw [List.length_drop]; omega
theorem low_succ {k : Nat} {l : List UInt8} (h : k < l.length) : low (k + 1) l = (l[l.length - 1 - k]'(by omega)) :: low k l := by
  unfold low
  rw [show l.length - (k + 1) = l.length - 1 - k from by omega, List.drop_eq_getElem_cons (by omega), show l.length - 1 - k + 1 = l.length - k from by omega]
theorem val_cons (c : UInt8) (l : List UInt8) : val 0 (c :: l) = dig c * 10 ^ l.length + val 0 l := by
  show val (0 * 10 + dig c) l = _
  rw [Nat.zero_mul, Nat.zero_add]
  exact val_acc _ _
/-- The digit at place k from the right; 0 beyond. -/
def nth (l : List UInt8) (k : Nat) : Nat := if h : k < l.length then dig (l[l.length - 1 - k]'(by omega)) else 0
theorem nth_lt {l : List UInt8} (hl : allDig l = true) (k : Nat) : nth l k < 10 := by
  unfold nth
  split
  · exact dig_lt _ (List.all_eq_true.1 hl _ (List.getElem_mem _))
  · decide
theorem val_low (l : List UInt8) (k : Nat) : val 0 (low (k + 1) l) = nth l k * 10 ^ k + val 0 (low k l) := by
  unfold nth
  split
  · rename_i h
    rw [low_succ h, val_cons, low_length (by omega)]
  · rename_i h
    rw [low_all (by omega), low_all (by omega), Nat.zero_mul, Nat.zero_add]
def AddI (a b : List UInt8) (k carry : Nat) (D : List UInt8) : Prop := D.length = k ∧ allDig D = true ∧ carry ≤ 1 ∧ val 0 D + carry * 10 ^ k = val 0 (low k a) + val 0 (low k b)
theorem AddI.start (a b : List UInt8) : AddI a b 0 0 [] := ⟨rfl, rfl, by decide, by rw [low_zero, low_zero, Nat.zero_mul]; rfl⟩
theorem AddI.step {a b : List UInt8} {k carry : Nat} {D : List UInt8} (h : AddI a b k carry D) (ha : allDig a = true) (hb : allDig b = true) :
    AddI a b (k + 1) ((carry + nth a k + nth b k) / 10) (UInt8.ofNat (48 + (carry + nth a k + nth b k) % 10) :: D) := by
  obtain ⟨h1, h2, h3, h4⟩ := h
  have e1 := nth_lt ha k
  have e2 := nth_lt hb k
  have hm : (carry + nth a k + nth b k) % 10 < 10 := Nat.mod_lt _ (by decide)
  refine ⟨by rw [List.length_cons, h1], (allDig_cons _ _).2 ⟨(dig_ofNat _ hm).2, h2⟩, by omega, ?_⟩
  rw [val_cons, (dig_ofNat _ hm).1, h1, val_low, val_low, Nat.pow_succ]
  have hs : carry + nth a k + nth b k = (carry + nth a k + nth b k) / 10 * 10 + (carry + nth a k + nth b k) % 10 := by omega
  generalize (carry + nth a k + nth b k) / 10 = q at hs ⊢
  generalize (carry + nth a k + nth b k) % 10 = r at hs ⊢
  generalize nth a k = x at *
  generalize nth b k = y at *
  generalize 10 ^ k = P at *
  have e : (carry + x + y) * P = (q * 10 + r) * P := by rw [hs]
  rw [Nat.add_mul, Nat.add_mul, Nat.add_mul, Nat.mul_assoc, Nat.mul_comm 10 P] at e
  omega
theorem AddI.done {a b : List UInt8} {k carry : Nat} {D : List UInt8} (h : AddI a b k carry D) (ha : a.length ≤ k) (hb : b.length ≤ k) :
    trimZ (UInt8.ofNat (48 + carry) :: D) = Lib.decDigits (val 0 a + val 0 b) := by
  obtain ⟨h1, h2, h3, h4⟩ := h
  have hm : carry < 10 := by omega
  rw [trimZ_dec _ ((allDig_cons _ _).2 ⟨(dig_ofNat _ hm).2, h2⟩), val_cons, (dig_ofNat _ hm).1, h1]
  rw [low_all ha, low_all hb] at h4
  rw [← h4, Nat.add_comm]
def SubI (a b : List UInt8) (k : Nat) (bw : Nat) (D : List UInt8) : Prop := D.length = k ∧ allDig D = true ∧ bw ≤ 1 ∧ val 0 D + val 0 (low k b) = val 0 (low k a) + 0 + bw * 10 ^ k
theorem SubI.start (a b : List UInt8) : SubI a b 0 0 [] := ⟨rfl, rfl, by decide, by rw [low_zero, low_zero, Nat.zero_mul]; rfl⟩
theorem SubI.step {a b : List UInt8} {k bw d nb : Nat} {D : List UInt8} (h : SubI a b k bw D) (hd : d < 10) (hn : nb ≤ 1) (he : nth a k + nb * 10 = nth b k + bw + d) :
    SubI a b (k + 1) nb (UInt8.ofNat (48 + d) :: D) := by
  obtain ⟨h1, h2, h3, h4⟩ := h
  refine ⟨by rw [List.length_cons, h1], (allDig_cons _ _).2 ⟨(dig_ofNat _ hd).2, h2⟩, hn, ?_⟩
  rw [val_cons, (dig_ofNat _ hd).1, h1, val_low, val_low, Nat.pow_succ]
  generalize nth a k = x at *
  generalize nth b k = y at *
  generalize 10 ^ k = P at *
  have e : (x + nb * 10) * P = (y + bw + d) * P := by rw [he]
  rw [Nat.add_mul, Nat.add_mul, Nat.add_mul, Nat.mul_assoc, Nat.mul_comm 10 P] at e
  omega
theorem SubI.done {a b : List UInt8} {bw : Nat} {D : List UInt8} (h : SubI a b a.length bw D) (hb : b.length ≤ a.length) (hv : val 0 b ≤ val 0 a) : trimZ D = Lib.decDigits (val 0 a - val 0 b) := by
  obtain ⟨h1, h2, h3, h4⟩ := h
  rw [low_all hb, low_all (Nat.le_refl _)] at h4
  have hlt := val_lt D h2
  rw [h1] at hlt
  rw [trimZ_dec D h2]
  congr 1
  rcases Nat.eq_zero_or_pos bw with h0 | h0
  · subst h0
    rw [Nat.zero_mul] at h4
    omega
  · have : bw = 1 := by omega
    subst this
    rw [Nat.one_mul] at h4
    omega
/-- addToExponent: `by` added to the magnitude. -/
def ExpI (x : List UInt8) (by_ : Int) (k : Nat) (carry : Int) (D : List UInt8) : Prop := k ≤ x.length ∧ D.length = k ∧ allDig D = true ∧ (val 0 (low k x) : Int) + by_ = carry * (10 ^ k : Nat) + (val 0 D : Int)
theorem ExpI.start (x : List UInt8) (by_ : Int) : ExpI x by_ 0 by_ [] := ⟨Nat.zero_le _, rfl, rfl, by rw [low_zero]; show (0 : Int) + by_ = by_ * ((1 : Nat) : Int) + 0; omega⟩
theorem ExpI.step {x : List UInt8} {by_ : Int} {k d : Nat} {carry nc : Int} {D : List UInt8} (h : ExpI x by_ k carry D) (hk : k < x.length) (hd : d < 10) (he : (nth x k : Int) + carry = nc * 10 + d) :
    ExpI x by_ (k + 1) nc (UInt8.ofNat (48 + d) :: D) := by
  obtain ⟨h0, h1, h2, h4⟩ := h
  refine ⟨hk, by rw [List.length_cons, h1], (allDig_cons _ _).2 ⟨(dig_ofNat _ hd).2, h2⟩, ?_⟩
  rw [val_cons, (dig_ofNat _ hd).1, h1, val_low, Nat.pow_succ]
  generalize nth x k = y at *
  generalize 10 ^ k = P at *
  have e : ((y : Int) + carry) * (P : Int) = (nc * 10 + (d : Int)) * (P : Int) := by rw [he]
  rw [Int.add_mul, Int.add_mul, Int.mul_assoc] at e
  rw [Int.natCast_add, Int.natCast_add, Int.natCast_mul, Int.natCast_mul, Int.natCast_mul, show ((10 : Nat) : Int) = 10 from rfl, Int.mul_comm (P : Int) 10]
  omega
/-- .. when nothing is left to carry. -/
theorem ExpI.zero {x : List UInt8} {by_ : Int} {k : Nat} {D : List UInt8} (h : ExpI x by_ k 0 D) (hx : allDig x = true) (hp : 0 < (val 0 x : Int) + by_) :
    strip (x.take (x.length - k) ++ D) = Lib.decDigits ((val 0 x : Int) + by_).natAbs := by
  obtain ⟨h0, h1, h2, h4⟩ := h
  have hsp : x = x.take (x.length - k) ++ low k x := by unfold low; rw [List.take_append_drop]
  have ht : allDig (x.take (x.length - k)) = true := by rw [hsp] at hx; exact ((allDig_append _ _).1 hx).1
  have hv : (val 0 (x.take (x.length - k) ++ D) : Int) = (val 0 x : Int) + by_ := by
    have e1 := val_append 0 (x.take (x.length - k)) D
    have e2 := val_append 0 (x.take (x.length - k)) (low k x)
    rw [← hsp] at e2
    rw [val_acc _ D, h1] at e1
    rw [val_acc _ (low k x), low_length h0] at e2
    rw [e1, e2]
    generalize val 0 (x.take (x.length - k)) = A at *
    generalize 10 ^ k = P at *
    rw [Int.zero_mul] at h4
    omega
  rw [dec_trim _ ((allDig_append _ _).2 ⟨ht, h2⟩) (by omega)]
  congr 1
  omega
theorem ExpI.full {x : List UInt8} {by_ carry : Int} {D : List UInt8} (h : ExpI x by_ x.length carry D) (hp : 0 < (val 0 x : Int) + by_) (hc : 0 < carry) :
    strip (Lib.itoa carry ++ D) = Lib.decDigits ((val 0 x : Int) + by_).natAbs := by
  obtain ⟨h0, h1, h2, h4⟩ := h
  rw [itoa_pos (by omega)]
  rw [low_all (Nat.le_refl _)] at h4
  have hv : (val 0 (Lib.decDigits carry.natAbs ++ D) : Int) = (val 0 x : Int) + by_ := by
    rw [val_append, val_acc, h1, val_dec, h4]
    generalize 10 ^ x.length = P
    rw [Int.natCast_add, Int.natCast_mul, show ((carry.natAbs : Nat) : Int) = carry from by omega]
  rw [dec_trim _ ((allDig_append _ _).2 ⟨dec_dig _, h2⟩) (by omega)]
  congr 1
  omega
theorem ExpI.notneg {x : List UInt8} {by_ carry : Int} {D : List UInt8} (h : ExpI x by_ x.length carry D) (hp : 0 < (val 0 x : Int) + by_) : 0 ≤ carry := by
  obtain ⟨h0, h1, h2, h4⟩ := h
  rw [low_all (Nat.le_refl _)] at h4
  have hlt := val_lt D h2
  rw [h1] at hlt
  rcases Int.lt_or_le carry 0 with h | h
  · exfalso
    generalize 10 ^ x.length = P at *
    have : carry * (P : Int) ≤ (-1) * (P : Int) := Int.mul_le_mul_of_nonneg_right (by omega) (by omega)
    omega
  · exact h
end Go.Proofs.Qxb6603961aDoor.Nb
