/-
  Seat b6603961aD: the library's contracts in this seat's own words; the walk of smallExponent.
-/
import Derived.Test.Qxb6603961aDoorShelf
import Derived.Test.Qxb6603961aDoorRows
import Derived.Test.Qxb6603961aDoorModA
import Derived.Lib.AppendIntMem
namespace Go.Proofs.Qxb6603961aDoor
open Go.Shelf Go.RowKit Nb

theorem trimLeft_any (s : ByteArray) (w : World) : Calls Tryd.prog 8 #[.string s, .string ⟨#[48]⟩] w fun e w' => e = .returned (.string (ofl (strip (bl s)))) ∧ w' = w :=
  Any.strings_TrimLeft_one Tryd.lays161 s 48 (by decide) w
theorem trimRight_any (s : ByteArray) (w : World) (hs : s.size ≤ 9223372036854775807) : Calls Tryd.prog 9 #[.string s, .string ⟨#[48]⟩] w fun e w' => e = .returned (.string (ofl (rstrip (bl s)))) ∧ w' = w :=
  Any.strings_TrimRight_one Tryd.lays162 s 48 (by decide) w hs
theorem prefix_head (l : List UInt8) (c : UInt8) : Lib.hasPrefix l [c] = decide (l.head? = some c) := by
  unfold Lib.hasPrefix
  cases l with
  | nil => rfl
  | cons d r =>
    show (c == d && [].isPrefixOf r) = decide (some d = some c)
    by_cases h : c = d
    · subst h
      simp
    · have h' : ¬ d = c := fun e => h e.symm
      simp [h, h']
theorem hasPrefix_any (s : ByteArray) (c : UInt8) (w : World) : Calls Tryd.prog 19 #[.string s, .string ⟨#[c]⟩] w fun e w' => e = .returned (.bool (decide ((bl s).head? = some c))) ∧ w' = w := by
  have h := Any.strings_HasPrefix Tryd.lays99 s ⟨#[c]⟩ w
  rw [show (⟨#[c]⟩ : ByteArray).data.toList = [c] from rfl, prefix_head] at h
  exact h
theorem repeatL_zero (c : Nat) : Lib.repeatL [48] c = List.replicate c 48 := by
  induction c with
  | zero => rfl
  | succ c ih =>
    show [48] ++ Lib.repeatL [48] c = 48 :: List.replicate c 48
    rw [ih]
    rfl
theorem repeat_any (c : Nat) (w : World) (hc : c ≤ 140737488355328) : Calls Tryd.prog 34 #[.string ⟨#[48]⟩, .int .i64 c] w fun e w' => e = .returned (.string (ofl (List.replicate c 48))) ∧ Below w.heap.size w w' := by
  have h := Any.strings_Repeat Tryd.lays105 Tryd.extra105 ⟨#[48]⟩ c w (by omega) (by show 1 * c ≤ _; omega)
  rw [show (⟨#[48]⟩ : ByteArray).data.toList = [48] from rfl, repeatL_zero] at h
  exact h

/-- The table of powers of ten, by the name under which the row lists it. -/
abbrev tabName : String := (Rows.fnCanonicalNumberMatchesModelRow.laid.map (·.1)).getD 2 default
def Tab (w : World) : Prop := Lib.TabIs Tryd.prog w tabName .u64 Lib.pow10Tab
theorem formatInt_any (n : Int) (w : World) (h0 : -9223372036854775808 ≤ n) (h1 : n ≤ 9223372036854775807) (ht : Tab w) : Calls Tryd.prog 13 #[.int .i64 n, .int .i64 10] w fun e w' => e = .returned (.string (ofl (Lib.itoa n))) ∧ Below w.heap.size w w' := by
  refine (Any.strconv_FormatInt_10 Tryd.laysM173 n h0 h1 w ht).mono ?_
  rintro e w' ⟨he, k, os, rfl⟩
  exact ⟨he, Lib.below_grow _ w (Nat.le_refl _) k os⟩
theorem itoa_any (n : Int) (w : World) (h0 : -9223372036854775808 ≤ n) (h1 : n ≤ 9223372036854775807) (ht : Tab w) : Calls Tryd.prog 32 #[.int .i64 n] w fun e w' => e = .returned (.string (ofl (Lib.itoa n))) ∧ Below w.heap.size w w' := by
  refine (Any.strconv_Itoa Tryd.laysM171 n h0 h1 w ht).mono ?_
  rintro e w' ⟨he, k, os, rfl⟩
  exact ⟨he, Lib.below_grow _ w (Nat.le_refl _) k os⟩

/-! ### strings.Builder -/
def IsB (B b : Nat) (l : List UInt8) (w : World) : Prop := Lib.IsBuilder 54 5 B b (Lib.byteCells l) w
theorem at_below {B b : Nat} {p : Value} {bs : List Value} {w w' : World} (h : Lib.BuilderAt 54 5 B b p bs w) (hb : Below w.heap.size w w') : Lib.BuilderAt 54 5 B b p bs w' := by
  have hlt := h.lt
  obtain ⟨hB, v, hbk, hown, hne⟩ := h
  refine ⟨hB, v, (hb.block b hlt).trans hbk, ⟨hown.1, ?_⟩, hne⟩
  rcases hown.2 with hv | ⟨g, cap, cur, hv, h1, h2, h3⟩
  · exact Or.inl hv
  · have hg : g < w.heap.size := by
      rcases Nat.lt_or_ge g w.heap.size with h' | h'
      · exact h'
      · simp [Array.getElem?_eq_none h'] at h2
    exact Or.inr ⟨g, cap, cur, hv, h1, (hb.block g hg).trans h2, h3⟩
theorem IsB.below {B b : Nat} {l : List UInt8} {w w' : World} (h : IsB B b l w) (hb : Below w.heap.size w w') : IsB B b l w' := by
  rcases h with h | h
  · exact Or.inl (at_below h hb)
  · exact Or.inr (at_below h hb)
/-- The builder at block w.heap.size of the call that began in w holds l. -/
def Bd (w : World) (l : List UInt8) (wr : World) : Prop := IsB w.heap.size w.heap.size l wr ∧ Below w.heap.size w wr
theorem Bd.below {w wr wx : World} {l : List UInt8} (h : Bd w l wr) (hb : Below wr.heap.size wr wx) : Bd w l wx := ⟨h.1.below hb, below_up h.2 hb⟩
theorem grow_any (w : World) (n : Nat) (hn : (n : Int) ≤ 281474976710656) :
    Calls Tryd.prog 28 #[.pointer (some ⟨w.heap.size, 0, none⟩), .int .i64 n] (w.alloc (.cells #[.pointer none, .slice none 0 0] 54)) fun e w' => e = .returned (.tuple #[]) ∧ Bd w [] w' := by
  have hl := lit_below w (.cells #[.pointer none, .slice none 0 0] 54)
  refine Calls.mono (Any.Builder_Grow_fresh Tryd.lays165 Tryd.extra165 w.heap.size w.heap.size n _ (Nat.le_refl _) (new_block w _) hl.size (by omega)) ?_
  rintro e w' ⟨he, h1, h2⟩
  exact ⟨he, Or.inr h1, hl.trans h2⟩
theorem writeByte_any (w wr : World) (l : List UInt8) (v : Int) (c : UInt8) (hv : v = (c.toNat : Int)) (h : Bd w l wr) (hlen : (l.length : Int) ≤ 1000000000) :
    Calls Tryd.prog 29 #[.pointer (some ⟨w.heap.size, 0, none⟩), .int .u8 v] wr fun e w' => e = .returned .nilIface ∧ Bd w (l ++ [c]) w' := by
  subst hv
  refine Calls.mono (Any.Builder_WriteByte Tryd.lays167 Tryd.extra167 w.heap.size w.heap.size (Lib.byteCells l) (c.toNat : Int) wr h.1 (by rw [Lib.byteCells_length]; omega) h.2.size) ?_
  rintro e w' ⟨he, h1, h2⟩
  refine ⟨he, Or.inr ?_, h.2.trans h2⟩
  have : Lib.byteCells (l ++ [c]) = Lib.byteCells l ++ [.int .u8 (c.toNat : Int)] := by simp [Lib.byteCells]
  rw [this]; exact h1
theorem writeString_any (w wr : World) (l : List UInt8) (s : ByteArray) (h : Bd w l wr) (hlen : (l.length : Int) ≤ 1000000000) (hs : (s.size : Int) ≤ 1000000000) :
    Calls Tryd.prog 30 #[.pointer (some ⟨w.heap.size, 0, none⟩), .string s] wr fun e w' => e = .returned (.tuple #[.int .i64 s.size, .nilIface]) ∧ Bd w (l ++ bl s) w' := by
  refine Calls.mono (Any.Builder_WriteString Tryd.lays166 Tryd.extra105 w.heap.size w.heap.size (Lib.byteCells l) s wr h.1 (by rw [Lib.byteCells_length]; omega) h.2.size) ?_
  rintro e w' ⟨he, h1, h2⟩
  refine ⟨he, Or.inr ?_, h.2.trans h2⟩
  rw [Lib.byteCells_append]; exact h1
theorem string_any (w wr : World) (l : List UInt8) (h : Bd w l wr) :
    Calls Tryd.prog 31 #[.pointer (some ⟨w.heap.size, 0, none⟩)] wr fun e w' => e = .returned (.string (ofl l)) ∧ Below w.heap.size w w' := by
  refine Calls.mono (Any.Builder_String_any Tryd.lays169 Tryd.extra169 w.heap.size w.heap.size l wr h.1 h.2.size) ?_
  rintro e w' ⟨he, h1⟩
  exact ⟨he, h.2.trans h1⟩

/-! ### smallExponent -/
theorem take_dig {l : List UInt8} (h : allDig l = true) (k : Nat) : allDig (l.take k) = true := by
  rw [← List.take_append_drop k l] at h
  exact ((allDig_append _ _).1 h).1
theorem val_small {l : List UInt8} (h : allDig l = true) (k : Nat) (hk : k ≤ 17) : (val 0 (l.take k) : Int) < 100000000000000000 := by
  have h2 := val_lt _ (take_dig h k)
  have h3 : 10 ^ (l.take k).length ≤ 100000000000000000 := Nat.le_trans (Nat.pow_le_pow_right (by decide) (by rw [List.length_take]; omega) : 10 ^ (l.take k).length ≤ 10 ^ 17) (by decide)
  omega
set_option maxHeartbeats 1000000 in
theorem smallExp_no (X : ByteArray) (en : Bool) (w : World) (h : ¬ (strip (bl X)).length ≤ 18) :
    Calls Tryd.prog 10 #[.string X, .bool en] w fun e w' => e = .returned (.tuple #[.int .i64 0, .bool false]) ∧ w' = w := by
  have ht := trimLeft_any X w
  obtain ⟨T, hT⟩ : ∃ T, ofl (strip (bl X)) = T := ⟨_, rfl⟩
  rw [hT] at ht
  have hs : ¬ (T.size : Int) ≤ 18 := by
    rw [← hT]
    show ¬ (((strip (bl X)).length : Nat) : Int) ≤ 18
    omega
  have hs' : (18 : Int) < (T.size : Int) := by omega
  clear hT h hs
  go_enter Tryd.func10, Tryd.ntmps10
  go_wp2_with (go_at_call 8; refine ht.mono ?_; rintro e w1 ⟨rfl, hw1⟩; have hw1 := hw1.symm; subst hw1)
  go_ret2
  exact ⟨rfl, rfl⟩
set_option maxHeartbeats 1000000 in
theorem smallExp_yes (X : ByteArray) (en : Bool) (w : World) (hd : allDig (bl X) = true) (h : (strip (bl X)).length ≤ 18) :
    Calls Tryd.prog 10 #[.string X, .bool en] w fun e w' => e = .returned (.tuple #[.int .i64 (expo en (bl X)), .bool true]) ∧ w' = w := by
  have ht := trimLeft_any X w
  obtain ⟨T, hT⟩ : ∃ T, ofl (strip (bl X)) = T := ⟨_, rfl⟩
  rw [hT] at ht
  have hs : (T.size : Int) ≤ 18 := by
    rw [← hT]
    show (((strip (bl X)).length : Nat) : Int) ≤ 18
    omega
  have HD : Hid (allDig (bl T) = true) := by show allDig (bl T) = true; rw [← hT]; exact strip_dig _ hd
  have HV : Hid (val 0 (bl T) = val 0 (bl X)) := by show val 0 (bl T) = val 0 (bl X); rw [← hT]; exact strip_val _
  clear hT h hd
  have hs2 : ¬ (18 : Int) < (T.size : Int) := by omega
  generalize hR : expo en (bl X) = R
  have HR : Hid (expo en (bl X) = R) := hR
  clear hR
  go_enter Tryd.func10, Tryd.ntmps10
  go_wp2_with (go_at_call 8; refine ht.mono ?_; rintro e w1 ⟨rfl, hw1⟩; have hw1 := hw1.symm; subst hw1)
  go_loop [6, 7] (fun v6 v7 => ∃ k y : Nat, k ≤ T.size ∧ v6 = .int .i64 (y : Int) ∧ v7 = .int .i64 (k : Int) ∧ Hid (y = val 0 ((bl T).take k))) (fun _ v7 => T.size - (intOf v7).toNat)
  case atStart => exact ⟨0, 0, Nat.zero_le _, rfl, rfl, rfl⟩
  case round =>
    obtain ⟨j, y, hj, rfl, rfl, HY⟩ := hrel
    by_cases hjl : j < T.size
    · obtain ⟨d, hd, ed, hxd⟩ := dig_int (List.all_eq_true.1 HD.out T[j] (List.getElem_mem (l := bl T) hjl))
      have eu : IntKind.u8.wrap (48 + (d : Int) - 48) = (d : Int) := by rw [IntKind.wrap_u8]; omega
      have hy : (y : Int) < 100000000000000000 := by
        rw [HY.out]
        exact val_small HD.out j (by omega)
      have HY' : Hid (y * 10 + d = val 0 ((bl T).take (j + 1))) := by
        show y * 10 + d = val 0 ((bl T).take (j + 1))
        rw [List.take_add_one, List.getElem?_eq_getElem (by rw [bl_len]; exact hjl)]
        show y * 10 + d = val 0 ((bl T).take j ++ [T[j]])
        rw [val_snoc, ← HY.out, ed]
      clear HY ed ht
      go_wp2
      go_round
      case rel => exact ⟨j + 1, y * 10 + d, by omega, by go_num, by go_num, HY'⟩
      case measure => simp [intOf]; omega
    · have hyp : y = val 0 (bl X) := by
        rw [HY.out, List.take_of_length_le (by rw [bl_len]; omega), HV.out]
      have hy : (y : Int) < 1000000000000000000 := by
        have h2 := val_lt _ (take_dig HD.out j)
        have h3 : 10 ^ ((bl T).take j).length ≤ 1000000000000000000 := Nat.le_trans (Nat.pow_le_pow_right (by decide) (by rw [List.length_take, bl_len]; omega) : 10 ^ ((bl T).take j).length ≤ 10 ^ 18) (by decide)
        rw [HY.out]
        omega
      cases en with
      | true =>
        have e : R = -(y : Int) := by rw [← HR.out, hyp]; rfl
        subst e
        clear HY hyp ht
        go_wp2
        go_ret2
        exact ⟨rfl, rfl⟩
      | false =>
        have e : R = (y : Int) := by rw [← HR.out, hyp]; rfl
        subst e
        clear HY hyp ht
        go_wp2
        go_ret2
        exact ⟨rfl, rfl⟩
end Go.Proofs.Qxb6603961aDoor
