/-
  Seat b6602839aD: byte slices in memory, and the library's contracts in those words.
-/
import Derived.Test.Qxb6602839aDoorShelf
import Derived.Test.Qxb6602839aDoorPlain
import Derived.WalkKit
import Derived.Laws.AppendOwnNone
import Derived.Lib.SlBytesRowKit2
namespace Go.Proofs.Qxb6602839aDoor
open Go.Shelf Go.RowKit

theorem below_cell {w w' : World} (hb : Below w.heap.size w w') {a : Addr} {v : Value} (hc : w.cell? a = some v) : w'.cell? a = some v := (hb.cell (World.block_lt_of_cell? w a hc)).trans hc
theorem below_up {w w' w'' : World} (h1 : Below w.heap.size w w') (h2 : Below w'.heap.size w' w'') : Below w.heap.size w w'' := h1.trans (h2.mono h1.size)
theorem below_drewN (w : World) (q : Nat) (B : Nat) : Below B w (w.drewN q) := ⟨rfl, rfl, rfl, Nat.le_refl _, fun _ _ => rfl⟩

/-- The numbers of a list of bytes. -/
def nums (l : List UInt8) : List Int := l.map fun b => (b.toNat : Int)
theorem nums_length (l : List UInt8) : (nums l).length = l.length := by simp [nums]
theorem bytesOf_nums (l : List UInt8) : Lib.bytesOf (nums l) = l := by
  unfold Lib.bytesOf nums
  rw [List.map_map]
  conv => rhs; rw [← List.map_id l]
  apply List.map_congr_left
  intro x _
  simp
theorem nums_range (l : List UInt8) : ∀ x ∈ nums l, 0 ≤ x ∧ x < 256 := by
  intro x hx
  obtain ⟨b, _, rfl⟩ := List.mem_map.1 hx
  have := b.toNat_lt
  omega
theorem nums_getD (l : List UInt8) (i : Nat) (h : i < l.length) : (nums l).getD i 0 = (l[i].toNat : Int) := by
  simp [nums, List.getD, h]

/-- THE SLICE 'p, n, c' HOLDS THE BYTES l, BELOW BLOCK B. -/
def Sl (w : World) (B : Nat) (p : Option Addr) (n c : Nat) (l : List UInt8) : Prop :=
  l.length = n ∧ n ≤ c ∧ c ≤ 9223372036854775807 ∧ (p = none → c = 0) ∧ (∀ a, p = some a → a.block < B) ∧
  (0 < n → ∃ b o, p = some ⟨b, o, none⟩ ∧ ∀ i (hi : i < l.length), w.cell? ⟨b, o + i, none⟩ = some (.int .u8 (l[i].toNat : Int)))

theorem Sl.nil (w : World) (B : Nat) : Sl w B none 0 0 [] := ⟨rfl, Nat.le_refl _, by omega, fun _ => rfl, fun a h => (by cases h), fun h => absurd h (Nat.lt_irrefl 0)⟩
theorem Sl.world {w w' : World} {B : Nat} {p : Option Addr} {n c : Nat} {l : List UInt8} (h : Sl w B p n c l) (hb : Below B w w') : Sl w' B p n c l := by
  obtain ⟨h1, h2, h3, h4, h5, h6⟩ := h
  refine ⟨h1, h2, h3, h4, h5, fun hn => ?_⟩
  obtain ⟨b, o, hp, hc⟩ := h6 hn
  exact ⟨b, o, hp, fun i hi => (hb.cell (p := ⟨b, o + i, none⟩) (show b < B from h5 ⟨b, o, none⟩ hp)).trans (hc i hi)⟩
theorem Sl.bytesIn {w : World} {B : Nat} {p : Option Addr} {n c : Nat} {l : List UInt8} (h : Sl w B p n c l) : Lib.BytesIn w p n (nums l) := by
  intro hn
  obtain ⟨b, o, hp, hc⟩ := h.2.2.2.2.2 hn
  refine ⟨b, o, hp, fun i hi => ?_⟩
  have hi' : i < l.length := by rw [h.1]; exact hi
  rw [hc i hi', nums_getD l i hi']
theorem Sl.take {w : World} {B : Nat} {p : Option Addr} {n c : Nat} {l : List UInt8} (h : Sl w B p n c l) (k : Nat) (hk : k ≤ n) : Sl w B p k c (l.take k) := by
  obtain ⟨h1, h2, h3, h4, h5, h6⟩ := h
  refine ⟨by rw [List.length_take]; omega, by omega, h3, h4, h5, fun hn => ?_⟩
  obtain ⟨b, o, hp, hc⟩ := h6 (by omega)
  refine ⟨b, o, hp, fun i hi => ?_⟩
  rw [List.length_take] at hi
  rw [hc i (by omega), List.getElem_take]
theorem Sl.from {w : World} {B : Nat} {p : Option Addr} {n c : Nat} {l : List UInt8} (h : Sl w B p n c l) (j : Nat) (hj : j ≤ n) : ∃ p', Lib.fromV p n c j = .slice p' (n - j) (c - j) ∧ Sl w B p' (n - j) (c - j) (l.drop j) := by
  obtain ⟨h1, h2, h3, h4, h5, h6⟩ := h
  unfold Lib.fromV
  by_cases hc : c = j
  · refine ⟨p, by rw [if_pos hc], by rw [List.length_drop]; omega, by omega, by omega, fun e => by omega, h5, fun hn => by omega⟩
  · rw [if_neg hc]
    refine ⟨_, rfl, by rw [List.length_drop]; omega, by omega, by omega, ?_, ?_, fun hn => ?_⟩
    · intro e
      have : p = none := by cases p with
        | none => rfl
        | some a => simp at e
      have := h4 this; omega
    · intro a ha
      cases p with
      | none => simp at ha
      | some x =>
        simp only [Option.map_some, Option.some.injEq] at ha
        rw [← ha]
        have := h5 x rfl
        unfold Addr.add
        split <;> exact this
    · obtain ⟨b, o, hp, hcl⟩ := h6 (by omega)
      refine ⟨b, o + j, ?_, fun i hi => ?_⟩
      · rw [hp]
        simp only [Option.map_some, Option.some.injEq, Addr.add]
        split
        · simp_all
        · rfl
      · rw [List.length_drop] at hi
        rw [Nat.add_assoc, hcl (j + i) (by omega), List.getElem_drop]

/-! ### The library -/
theorem split_take (l a t : List UInt8) (h : l = a ++ 10 :: t) : l.take a.length = a := by rw [h, List.take_left]
theorem split_drop (l a t : List UInt8) (h : l = a ++ 10 :: t) : l.drop (a.length + 1) = t := by
  rw [h, show a.length + 1 = (a ++ [10]).length from by simp, show a ++ 10 :: t = (a ++ [10]) ++ t from by simp, List.drop_left]
theorem cut_any (m : Int) (B : Nat) (p : Option Addr) (n c k : Nat) (l : List UInt8) (w : World) (h : Sl w B p n c l) (hn : n < 4294967281) (hm : w.cell? ⟨0, 0, none⟩ = some (.int .i64 m)) (hk : w.cell? ⟨k, 0, none⟩ = some (.int .u8 10)) :
    Calls Tryd.prog 22 #[.slice p n c, .slice (some ⟨k, 0, none⟩) 1 1] w fun e w' => (∃ n1 p2 n2 c2 f, e = .returned (.tuple #[.slice p n1 c, .slice p2 n2 c2, .bool f]) ∧ Sl w B p n1 c (Uf.lineOf l) ∧ Sl w B p2 n2 c2 (Uf.restOf l)) ∧ Below w.heap.size w w' := by
  have hin : Lib.BytesIn w (some ⟨k, 0, none⟩) 1 [10] := fun _ => ⟨k, 0, rfl, fun i hi => by
    have : i = 0 := by omega
    subst this; exact hk⟩
  have hcon := Any.bytes_Cut_all Tryd.laysCut p (some ⟨k, 0, none⟩) n c 1 1 (nums l) [10] m w (by rw [nums_length]; exact h.1) rfl (nums_range l) (by intro y hy; simp at hy; subst hy; omega) h.bytesIn hin h.2.2.2.1 h.2.1 hn (by omega) hm
  refine Calls.mono hcon ?_
  rintro e w' ⟨rfl, q, rfl⟩
  refine ⟨?_, below_drewN _ _ _⟩
  have e10 : Lib.bytesOf [10] = [10] := rfl
  rw [bytesOf_nums, e10, Uf.index_nl]
  cases hnl : Uf.hasNL l with
  | true =>
    have hsp := congrArg List.length (Uf.line_split l hnl)
    rw [List.length_append, List.length_cons, h.1] at hsp
    obtain ⟨p', e1, s1⟩ := h.from ((Uf.lineOf l).length + 1) (by omega)
    have hr : l.drop ((Uf.lineOf l).length + 1) = Uf.restOf l := split_drop _ _ _ (Uf.line_split l hnl)
    have hl : l.take (Uf.lineOf l).length = Uf.lineOf l := split_take _ _ _ (Uf.line_split l hnl)
    have s0 := h.take (Uf.lineOf l).length (by omega)
    rw [hl] at s0
    rw [hr] at s1
    refine ⟨_, p', _, _, true, ?_, s0, s1⟩
    simp only [if_true, Lib.cutV]
    rw [if_pos (by omega), Int.toNat_natCast, e1]
  | false =>
    have := Uf.line_all l hnl
    rw [this.1, this.2]
    refine ⟨n, none, 0, 0, false, ?_, h, Sl.nil _ _⟩
    simp [Lib.cutV]

theorem trimSuffix_any (B : Nat) (p : Option Addr) (n c k : Nat) (l : List UInt8) (w : World) (h : Sl w B p n c l) (hk : w.cell? ⟨k, 0, none⟩ = some (.int .u8 13)) :
    Calls Tryd.prog 24 #[.slice p n c, .slice (some ⟨k, 0, none⟩) 1 1] w fun e w' => (∃ n1, e = .returned (.slice p n1 c) ∧ Sl w B p n1 c (Uf.trimCR l)) ∧ w' = w := by
  have hin : Lib.BytesIn w (some ⟨k, 0, none⟩) 1 [13] := fun _ => ⟨k, 0, rfl, fun i hi => by
    have : i = 0 := by omega
    subst this; exact hk⟩
  have hcon := Any.bytes_TrimSuffix_all Tryd.laysTs p (some ⟨k, 0, none⟩) n c 1 1 (nums l) [13] w (by rw [nums_length]; exact h.1) rfl h.2.1 (Nat.le_trans h.2.1 h.2.2.1) h.bytesIn hin
  refine Calls.mono hcon ?_
  rintro e w' ⟨rfl, rfl⟩
  refine ⟨?_, rfl⟩
  rw [Uf.trimCR_suffix]
  by_cases hn : 0 < n
  · obtain ⟨b, o, rfl, -⟩ := h.2.2.2.2.2 hn
    have e13 : Lib.bytesOf [13] = [13] := rfl
    simp only [Lib.trimSuffixV, Lib.bytesTrimSuffix, bytesOf_nums, e13, Lib.sliceTo]
    cases hs : Lib.hasSuffix l [13] with
    | true =>
      refine ⟨n - 1, by simp, ?_⟩
      have := h.take (n - 1) (by omega)
      rw [if_pos rfl, h.1]; exact this
    | false => exact ⟨n, by simp, by simpa using h⟩
  · have h0 : n = 0 := by omega
    subst h0
    have hl : l = [] := List.eq_nil_of_length_eq_zero h.1
    subst hl
    refine ⟨0, ?_, h⟩
    unfold Lib.trimSuffixV
    split
    · rfl
    · rfl

theorem fromV_or {w : World} {B : Nat} {p : Option Addr} {n c : Nat} {l : List UInt8} (h : Sl w B p n c l) (j : Nat) (hj : j ≤ n) : ∃ p' n' c', Lib.leftV p n c j = .slice p' n' c' ∧ Sl w B p' n' c' (l.drop j) := by
  unfold Lib.leftV
  by_cases e : j = n
  · rw [if_pos e, List.drop_of_length_le (by rw [h.1, e]; exact Nat.le_refl _)]
    exact ⟨_, _, _, rfl, Sl.nil _ _⟩
  · rw [if_neg e]
    obtain ⟨p', e1, s1⟩ := h.from j hj
    exact ⟨_, _, _, e1, s1⟩

theorem drop_len_dropWhile (q : UInt8 → Bool) (l : List UInt8) : l.drop (l.length - (l.dropWhile q).length) = l.dropWhile q := by
  induction l with
  | nil => rfl
  | cons c r ih =>
    rw [List.dropWhile_cons]
    split
    · have : (r.dropWhile q).length ≤ r.length := by
        have := Uf.left_le r []
        clear this
        induction r with
        | nil => exact Nat.le_refl _
        | cons d t _ => exact List.IsSuffix.length_le (List.dropWhile_suffix q)
      rw [List.length_cons, show r.length + 1 - (r.dropWhile q).length = (r.length - (r.dropWhile q).length) + 1 from by omega, List.drop_succ_cons, ih]
    · simp
theorem trimLeft_any (B : Nat) (p : Option Addr) (n c : Nat) (l : List UInt8) (w : World) (h : Sl w B p n c l) :
    Calls Tryd.prog 27 #[.slice p n c, .string ⟨#[32, 9]⟩] w fun e w' => (∃ p' n' c', e = .returned (.slice p' n' c') ∧ Sl w B p' n' c' (Lib.trimLeftS l Uf.blanks)) ∧ Below w.heap.size w w' := by
  have hcon := Any.bytes_TrimLeft_laid Tryd.laysTl (by kernel_rfl) p n c (nums l) ⟨#[32, 9]⟩ w (by rw [nums_length]; exact h.1) h.2.1 h.2.2.1 h.bytesIn (nums_range l) (by decide) (ascii_of_all (by decide))
  refine Calls.mono hcon ?_
  rintro e w' ⟨rfl, hb⟩
  refine ⟨?_, hb⟩
  rw [bytesOf_nums]
  have e1 : l.drop (n - (Lib.trimLeftS l Uf.blanks).length) = Lib.trimLeftS l Uf.blanks := by
    rw [← h.1]; exact drop_len_dropWhile _ l
  obtain ⟨p', n', c', e2, s2⟩ := fromV_or h (n - (Lib.trimLeftS l Uf.blanks).length) (by omega)
  rw [e1] at s2
  exact ⟨p', n', c', congrArg Ending.returned e2, s2⟩
theorem take_trimRight (l cs : List UInt8) : l.take (Lib.trimRightS l cs).length = Lib.trimRightS l cs := by
  unfold Lib.trimRightS
  have := drop_len_dropWhile (cs.contains ·) l.reverse
  rw [List.drop_reverse] at this
  have h2 := congrArg List.reverse this
  rw [List.reverse_reverse] at h2
  have hle : (l.reverse.dropWhile (cs.contains ·)).length ≤ l.length := by
    have := List.IsSuffix.length_le (List.dropWhile_suffix (l := l.reverse) (cs.contains ·))
    rwa [List.length_reverse] at this
  rw [List.length_reverse] at *
  rw [show l.length - (l.length - (l.reverse.dropWhile (cs.contains ·)).length) = (l.reverse.dropWhile (cs.contains ·)).length from by omega] at h2
  exact h2
theorem trimRight_le (l cs : List UInt8) : (Lib.trimRightS l cs).length ≤ l.length := by
  have := congrArg List.length (take_trimRight l cs)
  rw [List.length_take] at this; omega
theorem trim_any (B : Nat) (p : Option Addr) (n c : Nat) (l : List UInt8) (w : World) (h : Sl w B p n c l) :
    Calls Tryd.prog 23 #[.slice p n c, .string ⟨#[32, 9]⟩] w fun e w' => (∃ p' n' c', e = .returned (.slice p' n' c') ∧ Sl w B p' n' c' (Lib.trimS l Uf.blanks)) ∧ Below w.heap.size w w' := by
  have hcon := Any.bytes_Trim_laid Tryd.laysTrim (by kernel_rfl) p n c (nums l) ⟨#[32, 9]⟩ w (by rw [nums_length]; exact h.1) h.2.1 h.2.2.1 h.bytesIn (nums_range l) (by decide) (ascii_of_all (by decide))
  refine Calls.mono hcon ?_
  rintro e w' ⟨rfl, hb⟩
  refine ⟨?_, hb⟩
  rw [bytesOf_nums]
  have s1 := h.take (Lib.trimRightS l Uf.blanks).length (by have := trimRight_le l Uf.blanks; rw [h.1] at this; exact this)
  rw [take_trimRight] at s1
  obtain ⟨p', n', c', e2, s2⟩ := fromV_or s1 ((Lib.trimRightS l Uf.blanks).length - (Lib.trimS l Uf.blanks).length) (by omega)
  have e1 : (Lib.trimRightS l Uf.blanks).drop ((Lib.trimRightS l Uf.blanks).length - (Lib.trimS l Uf.blanks).length) = Lib.trimS l Uf.blanks := drop_len_dropWhile _ _
  rw [e1] at s2
  exact ⟨p', n', c', congrArg Ending.returned e2, s2⟩
theorem trimStr_any (s : ByteArray) (w : World) (hs : s.size ≤ 9223372036854775807) :
    Calls Tryd.prog 45 #[.string s, .string ⟨#[32, 9]⟩] w fun e w' => e = .returned (.string ⟨(Lib.trimS s.data.toList Uf.blanks).toArray⟩) ∧ Below w.heap.size w w' :=
  Any.strings_Trim_laid Tryd.lays160 (by kernel_rfl) s ⟨#[32, 9]⟩ w hs (by decide) (ascii_of_all (by decide))
end Go.Proofs.Qxb6602839aDoor
