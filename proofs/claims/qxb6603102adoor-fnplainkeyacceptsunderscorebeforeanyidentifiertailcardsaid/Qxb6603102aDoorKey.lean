/-
  Seat b6603102aD: the walk of plainKey at a key that begins with an underscore.
-/
import Derived.Test.Qxb6603102aDoorWalks
import Derived.Lib.ConvBytes
import Derived.Lib.AtoiErrMem
namespace Go.Proofs.Qxb6603102aDoor
open Go.Shelf Go.RowKit

theorem bytes_eq {a b : ByteArray} (h : a.data.toList = b.data.toList) : a = b := by
  obtain ⟨⟨x⟩⟩ := a
  obtain ⟨⟨y⟩⟩ := b
  cases h
  rfl
theorem below_up {w w' w'' : World} (h1 : Below w.heap.size w w') (h2 : Below w'.heap.size w' w'') : Below w.heap.size w w'' := h1.trans (h2.mono h1.size)

theorem ascii_of_ident (l : List UInt8) (h : allId l = true) : ∀ (j : Nat) (b : UInt8), l[j]? = some b → b.toNat < 128 := by
  intro j b hb
  unfold allId at h
  rw [List.all_eq_true] at h
  have := h b (List.mem_of_getElem? hb)
  unfold ident letter digit at this
  simp at this
  omega

set_option maxHeartbeats 800000 in
theorem plainKey_any (s : ByteArray) (l : List UInt8) (w : World) (hl : s.data.toList = 95 :: l) (hs : s.size ≤ 140737488355328) :
    Calls Tryd.prog 10 #[.string s] w fun e w' => e = .returned (.bool (allId s.data.toList)) ∧ Below w.heap.size w w' := by
  have h0 : 0 < s.size := by
    rw [show s.size = s.data.toList.length from rfl, hl]
    exact Nat.succ_pos _
  have h1 : s.extract 0 1 = ⟨#[95]⟩ := by
    apply bytes_eq
    rw [ByteArray.data_extract, Array.toList_extract, hl]
    rfl
  have hcon := contains_any w
  have HL : Hid (s.data.toList = 95 :: l) := hl
  have hne : s.toList.isEmpty = false := by
    rw [ByteArray.toList_eq]
    cases hl : s.data.toList with
    | nil => exact absurd (show s.size = 0 by rw [show s.size = s.data.toList.length from rfl, hl]; rfl) (by omega)
    | cons _ _ => rfl
  have hone : 1 ≤ s.size := h0
  have kc := fun (w : World) => Lib.run_convert_string_bytes (P := Tryd.prog) w 9 24 5 s Tryd.underlying9 Tryd.underlying24 Tryd.underlying5
  generalize hA : allId s.data.toList = A
  have HA : Hid (allId s.data.toList = A) := hA
  clear hA
  go_enter Tryd.func10, Tryd.ntmps10
  go_wp2_with (go_at_call 13; refine hcon.mono ?_; rintro e w1 ⟨rfl, hb⟩)
  have HB : Hid (Below w.heap.size w (Lib.bytesWorld w1 5 s)) := below_up hb (Lib.bytesWorld_below _ _ _)
  have hcell : ∀ k, (hk : k < s.size) → (Lib.bytesWorld w1 5 s).cell? ⟨w1.heap.size, k, none⟩ = some (.int .u8 (s[k].toNat : Int)) := by
    intro k hk
    rw [Lib.bytesWorld_cell _ _ _ _ hk]
    have e : s.data.toList.getD k 0 = s[k] := by
      rw [List.getD_eq_getElem?_getD, Array.getElem?_toList, Array.getElem?_eq_getElem hk]
      rfl
    rw [e]
  have HCell : Hid (∀ k, (hk : k < s.size) → (Lib.bytesWorld w1 5 s).cell? ⟨w1.heap.size, k, none⟩ = some (.int .u8 (s[k].toNat : Int))) := hcell
  clear hcell hb h1 kc hcon hl
  generalize Lib.bytesWorld w1 5 s = w2 at *
  generalize w1.heap.size = B at *
  generalize grownCap w1 s.size 0 5 = C at *
  go_loop [15] (fun i => ∃ k : Nat, k ≤ s.size ∧ i = .int .i64 k ∧ Hid (∀ j, (hj : j < s.size) → j < k → ident (s[j].toNat : Int) = true)) (fun i => s.size - (intOf i).toNat)
  case atStart => exact ⟨0, Nat.zero_le _, rfl, fun j _ hj => absurd hj (Nat.not_lt_zero _)⟩
  case round =>
    obtain ⟨k, hk, rfl, hall⟩ := hrel
    by_cases hlt : k < s.size
    · have hcl := HCell.out k hlt
      have hT : ident (s[k].toNat : Int) = true → Hid (∀ j, (hj : j < s.size) → j < k + 1 → ident (s[j].toNat : Int) = true) := fun h j hj hjk => if e : j = k then by subst e; exact h else hall.out j hj (by omega)
      have hF : ident (s[k].toNat : Int) = false → A = false := fun h => HA.out.symm.trans (allId_not s k hlt h)
      have HT : Hid (ident (s[k].toNat : Int) = true → Hid (∀ j, (hj : j < s.size) → j < k + 1 → ident (s[j].toNat : Int) = true)) := hT
      clear hT HCell hall
      generalize (s[k].toNat : Int) = c at hcl HT hF
      by_cases i1 : 97 ≤ c ∧ c ≤ 122
      · obtain ⟨a1, a2⟩ := i1
        have Ht := HT.out (by unfold ident letter digit; simp [a1, a2])
        clear HT hF
        go_wp2
        go_round
        case rel => exact ⟨k + 1, by omega, by go_num, Ht⟩
        case measure => simp [intOf]; omega
      by_cases i2 : 65 ≤ c ∧ c ≤ 90
      · obtain ⟨a1, a2⟩ := i2
        have Ht := HT.out (by unfold ident letter digit; simp [a1, a2])
        have b1 : c < 97 := by omega
        clear HT hF i1
        go_wp2
        go_round
        case rel => exact ⟨k + 1, by omega, by go_num, Ht⟩
        case measure => simp [intOf]; omega
      by_cases i3 : 48 ≤ c ∧ c ≤ 57
      · obtain ⟨a1, a2⟩ := i3
        have Ht := HT.out (by unfold ident letter digit; simp [a1, a2])
        have b1 : c < 97 := by omega
        have b2 : c < 65 := by omega
        clear HT hF i1 i2
        go_wp2
        go_round
        case rel => exact ⟨k + 1, by omega, by go_num, Ht⟩
        case measure => simp [intOf]; omega
      by_cases i4 : c = 95
      · have Ht := HT.out (by unfold ident letter digit; simp [i4])
        subst i4
        clear HT hF i1 i2 i3
        go_wp2
        go_round
        case rel => exact ⟨k + 1, by omega, by go_num, Ht⟩
        case measure => simp [intOf]; omega
      have e : A = false := hF (by unfold ident letter digit; simp; omega)
      subst e
      have a4 : (c == 95) = false := beq_eq_false_iff_ne.2 i4
      clear HT hF HA i4
      rcases Int.lt_or_le 122 c with c1 | c1
      · have b1 : 97 ≤ c := by omega
        have b2 : 65 ≤ c := by omega
        have b3 : 48 ≤ c := by omega
        have b4 : ¬ c ≤ 122 := by omega
        have b5 : ¬ c ≤ 90 := by omega
        have b6 : ¬ c ≤ 57 := by omega
        clear i1 i2 i3 c1
        go_wp2
        go_ret
        exact ⟨rfl, HB.out⟩
      have b1 : c < 97 := by omega
      rcases Int.lt_or_le 90 c with c2 | c2
      · have b2 : 65 ≤ c := by omega
        have b3 : 48 ≤ c := by omega
        have b5 : ¬ c ≤ 90 := by omega
        have b6 : ¬ c ≤ 57 := by omega
        clear i1 i2 i3 c2
        go_wp2
        go_ret
        exact ⟨rfl, HB.out⟩
      have b2 : c < 65 := by omega
      rcases Int.lt_or_le 57 c with c3 | c3
      · have b3 : 48 ≤ c := by omega
        have b6 : ¬ c ≤ 57 := by omega
        clear i1 i2 i3 c3
        go_wp2
        go_ret
        exact ⟨rfl, HB.out⟩
      have b3 : c < 48 := by omega
      clear i1 i2 i3
      go_wp2
      go_ret
      exact ⟨rfl, HB.out⟩
    · have e : A = true := HA.out.symm.trans (allId_of s fun j hj => hall.out j hj (by omega))
      subst e
      have hlo := fun w => lower_any s w hs (ascii_of_ident _ HA.out)
      generalize hr : (⟨(Lib.toLowerA s.data.toList).toArray⟩ : ByteArray) = r at hlo
      have hq : ∀ (c : UInt8) (t : List UInt8), c ≠ 95 → (r.toList == c :: t) = false := by
        intro c t hc
        rw [ByteArray.toList_eq, ← hr, HL.out]
        show (95 :: (Lib.toLowerA l)  == c :: t) = false
        rw [beq_eq_false_iff_ne]
        intro e
        exact hc (List.cons.inj e).1.symm
      have q1 := hq 116 [114, 117, 101] (by decide)
      have q2 := hq 102 [97, 108, 115, 101] (by decide)
      have q3 := hq 110 [117, 108, 108] (by decide)
      have q4 := hq 121 [101, 115] (by decide)
      have q5 := hq 110 [111] (by decide)
      have q6 := hq 111 [110] (by decide)
      have q7 := hq 111 [102, 102] (by decide)
      have q8 := hq 121 [] (by decide)
      have q9 := hq 110 [] (by decide)
      clear hr hq HL HA HCell
      go_wp2_with (go_at_call 14; refine (hlo _).mono ?_; rintro e w3 ⟨rfl, hb3⟩)
      go_ret
      exact ⟨rfl, below_up HB.out hb3⟩
end Go.Proofs.Qxb6603102aDoor
