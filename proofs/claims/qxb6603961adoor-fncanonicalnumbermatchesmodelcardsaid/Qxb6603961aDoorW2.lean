/-
  Seat b6603961aD: the walk of zzMagCmp.
-/
import Derived.Test.Qxb6603961aDoorW1
import Derived.BigQuiet
namespace Go.Proofs.Qxb6603961aDoor
open Go.RowKit Nb

theorem below_drewN (w : World) (q B : Nat) : Below B w (w.drewN q) := ⟨rfl, rfl, rfl, Nat.le_refl _, fun _ _ => rfl⟩
theorem below_dN {B : Nat} {a w : World} (h : Below B a w) (q : Nat) : Below B a (w.drewN q) := h.trans (below_drewN w q B)
theorem below_up {w w' w'' : World} (h1 : Below w.heap.size w w') (h2 : Below w'.heap.size w' w'') : Below w.heap.size w w'' := h1.trans (h2.mono h1.size)
/-! ### Plain: numerals compared -/
theorem val_head (c : UInt8) (r : List UInt8) (h : isDig c = true) (h0 : c ≠ 48) : 10 ^ r.length ≤ val 0 (c :: r) := by
  have h1 := (isDig_iff c).1 h
  have h2 : c.toNat ≠ 48 := fun e => h0 (by apply UInt8.toNat_inj.1; rw [e]; rfl)
  rw [val_cons]
  generalize 10 ^ r.length = P
  have h3 : 1 * P ≤ dig c * P := Nat.mul_le_mul_right _ (by unfold dig; omega)
  omega
theorem dec_len {m n : Nat} (h : (Lib.decDigits m).length < (Lib.decDigits n).length) : m < n := by
  have hm := val_lt _ (dec_dig m)
  rw [val_dec] at hm
  rcases Nat.eq_zero_or_pos n with h0 | h0
  · subst h0
    rw [dec_zero, List.length_singleton] at h
    have := List.length_pos_iff.2 (dec_ne m)
    omega
  · cases hd : Lib.decDigits n with
    | nil => exact absurd hd (dec_ne n)
    | cons c r =>
      have h1 := val_head c r (by have := dec_dig n; rw [hd] at this; exact ((allDig_cons _ _).1 this).1) (dec_head n h0 c r hd)
      rw [← hd, val_dec] at h1
      rw [hd, List.length_cons] at h
      have h2 : 10 ^ (Lib.decDigits m).length ≤ 10 ^ r.length := Nat.pow_le_pow_right (by decide) (by omega)
      omega
theorem first_diff {A B : List UInt8} (hA : allDig A = true) (hl : A.length = B.length) (k : Nat) (hk : k < A.length) (ht : A.take k = B.take k) (hd : dig A[k] < dig (B[k]'(by omega))) : val 0 A < val 0 B := by
  have e1 : A = A.take k ++ A[k] :: A.drop (k + 1) := by rw [← List.drop_eq_getElem_cons hk, List.take_append_drop]
  have e2 : B = B.take k ++ B[k]'(by omega) :: B.drop (k + 1) := by rw [← List.drop_eq_getElem_cons (by omega), List.take_append_drop]
  have h1 : allDig (A.drop (k + 1)) = true := by
    rw [e1] at hA
    exact ((allDig_cons _ _).1 ((allDig_append _ _).1 hA).2).2
  have h2 := val_lt _ h1
  have v1 : val 0 A = val (val 0 (A.take k)) (A[k] :: A.drop (k + 1)) := by rw [← val_append, ← e1]
  have v2 : val 0 B = val (val 0 (B.take k)) (B[k]'(by omega) :: B.drop (k + 1)) := by rw [← val_append, ← e2]
  rw [v1, v2, ht, val_acc, val_acc _ (_ :: B.drop (k + 1)), val_cons, val_cons]
  have e3 : (A.drop (k + 1)).length = (B.drop (k + 1)).length := by rw [List.length_drop, List.length_drop, hl]
  rw [List.length_cons, List.length_cons, e3]
  rw [e3] at h2
  generalize val 0 (B.take k) * 10 ^ ((B.drop (k + 1)).length + 1) = Z
  generalize 10 ^ (B.drop (k + 1)).length = P at *
  have h3 : (dig A[k] + 1) * P ≤ dig (B[k]'(by omega)) * P := Nat.mul_le_mul_right _ hd
  rw [Nat.add_mul, Nat.one_mul] at h3
  omega
def cmp (m n : Nat) : Int := if m < n then -1 else if n < m then 1 else 0
theorem cmp_lt {m n : Nat} (h : m < n) : cmp m n = -1 := by unfold cmp; rw [if_pos h]
theorem cmp_gt {m n : Nat} (h : n < m) : cmp m n = 1 := by unfold cmp; rw [if_neg (by omega), if_pos h]
theorem cmp_eq (m : Nat) : cmp m m = 0 := by unfold cmp; rw [if_neg (by omega), if_neg (by omega)]
def IsDec (s : ByteArray) (m : Nat) : Prop := bl s = Lib.decDigits m
theorem take_succ_eq {A B : List UInt8} {k : Nat} (hA : k < A.length) (hB : k < B.length) (ht : A.take k = B.take k) (h : A[k] = B[k]) : A.take (k + 1) = B.take (k + 1) := by
  rw [List.take_add_one, List.take_add_one, ht, List.getElem?_eq_getElem hA, List.getElem?_eq_getElem hB, h]
theorem bl_get (s : ByteArray) (k : Nat) (h : k < s.size) : (bl s)[k]'h = s[k] := rfl
theorem dig_lt_of {a b : UInt8} (ha : isDig a = true) (h : (a.toNat : Int) < (b.toNat : Int)) : dig a < dig b := by
  have := (isDig_iff a).1 ha
  unfold dig
  omega

set_option maxHeartbeats 1000000 in
theorem magCmp_any (a b : ByteArray) (m n : Nat) (w : World) (ha : IsDec a m) (hb : IsDec b n) (hsa : a.size ≤ 9223372036854775807) (_hsb : b.size ≤ 9223372036854775807) :
    Calls Tryd.prog 36 #[.string a, .string b] w fun e w' => e = .returned (.int .i64 (cmp m n)) ∧ Below w.heap.size w w' := by
  generalize hA : cmp m n = A
  have HA : Hid (cmp m n = A) := hA
  clear hA
  have HDa : Hid (IsDec a m) := ha
  have HDb : Hid (IsDec b n) := hb
  have hlt : a.size < b.size → m < n := fun h => dec_len (by rw [← show bl a = _ from ha, ← show bl b = _ from hb]; exact h)
  have hgt : b.size < a.size → n < m := fun h => dec_len (by rw [← show bl a = _ from ha, ← show bl b = _ from hb]; exact h)
  rcases Nat.lt_trichotomy a.size b.size with h | h | h
  · have e : A = -1 := HA.out.symm.trans (cmp_lt (hlt h))
    subst e
    have h1 : ((a.size : Int) == (b.size : Int)) = false := beq_eq_false_iff_ne.2 (by omega)
    have h2 : (a.size : Int) < (b.size : Int) := by omega
    clear hlt hgt ha hb
    go_enter Tryd.func36, Tryd.ntmps36
    go_wp2
    go_ret
    exact ⟨rfl, Below.refl _ _⟩
  · have hab : ((a.size : Int) == (b.size : Int)) = true := beq_iff_eq.2 (by omega)
    clear hlt hgt ha hb
    go_enter Tryd.func36, Tryd.ntmps36
    go_wp2
    go_loopw [5] (fun i wr => ∃ k : Nat, k ≤ a.size ∧ i = .int .i64 k ∧ Hid ((bl a).take k = (bl b).take k) ∧ Hid (Below w.heap.size w wr)) (fun i _ => a.size - (intOf i).toNat)
    case atStart => exact ⟨0, Nat.zero_le _, rfl, rfl, Below.refl _ _⟩
    case round =>
      obtain ⟨k, hk, rfl, ht, HB⟩ := hrel
      by_cases hlt : k < a.size
      · have hltb : k < b.size := by omega
        have i1 : (k : Int) < (a.size : Int) := by omega
        have i2 : (k : Int) < (b.size : Int) := by omega
        have hda : isDig a[k] = true := List.all_eq_true.1 (show allDig (bl a) = true by rw [show bl a = _ from HDa.out]; exact dec_dig m) _ (List.getElem_mem (l := bl a) hlt)
        have hdb : isDig b[k] = true := List.all_eq_true.1 (show allDig (bl b) = true by rw [show bl b = _ from HDb.out]; exact dec_dig n) _ (List.getElem_mem (l := bl b) hltb)
        have hda' : allDig (bl a) = true := by rw [show bl a = _ from HDa.out]; exact dec_dig m
        have hdb' : allDig (bl b) = true := by rw [show bl b = _ from HDb.out]; exact dec_dig n
        have hval : val 0 (bl a) = m ∧ val 0 (bl b) = n := by rw [show bl a = _ from HDa.out, show bl b = _ from HDb.out, val_dec, val_dec]; exact ⟨rfl, rfl⟩
        have HL : Hid ((a[k].toNat : Int) < (b[k].toNat : Int) → A = -1) := fun hh => HA.out.symm.trans (cmp_lt (by
          rw [← hval.1, ← hval.2]
          exact first_diff hda' h k hlt ht.out (dig_lt_of hda hh)))
        have HG : Hid ((b[k].toNat : Int) < (a[k].toNat : Int) → A = 1) := fun hh => HA.out.symm.trans (cmp_gt (by
          rw [← hval.1, ← hval.2]
          exact first_diff hdb' h.symm k hltb ht.out.symm (dig_lt_of hdb hh)))
        have HE : Hid ((a[k].toNat : Int) = (b[k].toNat : Int) → Hid ((bl a).take (k + 1) = (bl b).take (k + 1))) := fun hh => take_succ_eq (A := bl a) (B := bl b) hlt hltb ht.out (by
          apply UInt8.toNat_inj.1
          show a[k].toNat = b[k].toNat
          omega)
        clear hda hdb hda' hdb' hval ht HDa HDb HA
        generalize hx : (a[k].toNat : Int) = x at *
        generalize hy : (b[k].toNat : Int) = y at *
        rcases Int.lt_trichotomy x y with hh | hh | hh
        · have e := HL.out hh
          subst e
          have hne : (x == y) = false := beq_eq_false_iff_ne.2 (by omega)
          clear HL HG HE
          go_wp2_with fail
          go_quiet (fail)
          go_wp2_with fail
          go_quiet (fail)
          go_wp2
          go_ret
          exact ⟨rfl, below_dN (below_dN HB.out _) _⟩
        · have Ht := HE.out hh
          have hne : (x == y) = true := beq_iff_eq.2 hh
          clear HL HG HE hh
          go_wp2_with fail
          go_quiet (fail)
          go_wp2
          go_roundw
          case rel => exact ⟨k + 1, by omega, by go_num, Ht, below_dN HB.out _⟩
          case measure => simp [intOf]; omega
        · have e := HG.out hh
          subst e
          have hne : (x == y) = false := beq_eq_false_iff_ne.2 (by omega)
          have hnl : ¬ x < y := by omega
          clear HL HG HE
          go_wp2_with fail
          go_quiet (fail)
          go_wp2_with fail
          go_quiet (fail)
          go_wp2
          go_ret
          exact ⟨rfl, below_dN (below_dN HB.out _) _⟩
      · have e : A = 0 := by
          rw [← HA.out]
          have hh := ht.out
          rw [List.take_of_length_le (l := bl a) (show (bl a).length ≤ k by rw [bl_len]; omega), List.take_of_length_le (l := bl b) (show (bl b).length ≤ k by rw [bl_len]; omega)] at hh
          have : m = n := by
            rw [← val_dec m, ← val_dec n, ← show bl a = _ from HDa.out, ← show bl b = _ from HDb.out, hh]
          rw [this]
          exact cmp_eq n
        subst e
        go_wp2
        go_ret
        exact ⟨rfl, HB.out⟩
  · have e : A = 1 := HA.out.symm.trans (cmp_gt (hgt h))
    subst e
    have h1 : ((a.size : Int) == (b.size : Int)) = false := beq_eq_false_iff_ne.2 (by omega)
    have h2 : ¬ (a.size : Int) < (b.size : Int) := by omega
    clear hlt hgt ha hb
    go_enter Tryd.func36, Tryd.ntmps36
    go_wp2
    go_ret
    exact ⟨rfl, Below.refl _ _⟩
end Go.Proofs.Qxb6603961aDoor
