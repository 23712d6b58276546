/-
  Seat b6602839aD: the law FnInsertedFieldUnfoldsToItsValue: the plain law: what is behind the colon unfolds to the value.
-/
import Derived.Test.Qxb6602839aDoorIns1
namespace Go.Proofs.Qxb6602839aDoor
open Go.Shelf Go.RowKit

theorem noNL_app : ∀ (a b : List UInt8), Uf.hasNL a = false → Uf.lineOf (a ++ 10 :: b) = a ∧ Uf.restOf (a ++ 10 :: b) = b
  | [], b, _ => ⟨rfl, rfl⟩
  | c :: r, b, h => by
    have hc : c ≠ 10 := by
      intro e
      simp [Uf.hasNL, e] at h
    simp only [Uf.hasNL, if_neg hc] at h
    have ih := noNL_app r b h
    simp only [List.cons_append, Uf.lineOf, Uf.restOf, if_neg hc]
    exact ⟨by rw [ih.1], ih.2⟩
theorem hasNL_app : ∀ (a b : List UInt8), Uf.hasNL (a ++ b) = (Uf.hasNL a || Uf.hasNL b)
  | [], b => by simp [Uf.hasNL]
  | c :: r, b => by
    by_cases hc : c = 10
    · simp [Uf.hasNL, hc]
    · simp only [List.cons_append, Uf.hasNL, if_neg hc]
      exact hasNL_app r b
theorem trimCR_cr (l : List UInt8) : Uf.trimCR (l ++ [13]) = l := by
  rw [Uf.trimCR_suffix]
  have h : Lib.hasSuffix (l ++ [13]) [13] = true := by simp [Lib.hasSuffix]
  rw [h, if_pos rfl, List.length_append, show l.length + [(13 : UInt8)].length - 1 = l.length from rfl, List.take_left]
theorem trimCR_none (l : List UInt8) (h : l.getLast? ≠ some 13) : Uf.trimCR l = l := by
  rw [Uf.trimCR_suffix]
  have h' : Lib.hasSuffix l [13] = false := by
    cases e : Lib.hasSuffix l [13] with
    | false => rfl
    | true =>
      exfalso
      apply h
      have hs : [13] <:+ l := by simpa [Lib.hasSuffix] using e
      obtain ⟨t, rfl⟩ := hs
      simp
  rw [h']
  rfl
theorem drop_app (p : UInt8 → Bool) (x : UInt8) (hx : p x = true) : ∀ l : List UInt8, (l ++ [x]).dropWhile p = if l.dropWhile p = [] then [] else l.dropWhile p ++ [x]
  | [] => by simp [List.dropWhile, hx]
  | c :: r => by
    have ih := drop_app p x hx r
    rw [List.cons_append]
    cases hc : p c with
    | true => rw [List.dropWhile_cons_of_pos hc, List.dropWhile_cons_of_pos hc]; exact ih
    | false =>
      have hn : ¬ p c = true := by rw [hc]; simp
      rw [List.dropWhile_cons_of_neg hn, List.dropWhile_cons_of_neg hn, if_neg (by simp)]
      rfl
theorem trimS_blank (l : List UInt8) : Lib.trimS (32 :: l) Uf.blanks = Lib.trimS l Uf.blanks := by
  unfold Lib.trimS
  have h32 : Uf.blanks.contains (32 : UInt8) = true := by decide
  have e : Lib.trimRightS (32 :: l) Uf.blanks = if Lib.trimRightS l Uf.blanks = [] then [] else 32 :: Lib.trimRightS l Uf.blanks := by
    unfold Lib.trimRightS
    rw [List.reverse_cons, drop_app _ 32 h32]
    by_cases h : l.reverse.dropWhile (Uf.blanks.contains ·) = []
    · rw [if_pos h, h]; rfl
    · rw [if_neg h, if_neg (fun h' => h (List.reverse_eq_nil_iff.1 h')), List.reverse_append]
      rfl
  rw [e]
  by_cases h : Lib.trimRightS l Uf.blanks = []
  · rw [if_pos h, h]
  · rw [if_neg h, Uf.left_cons, if_pos (by decide)]

/-- THE LAW: a blank, a value of one line, a line end. -/
theorem unfold_value (vl le : List UInt8) (h : oneLine vl = true) (hle : le = [13, 10] ∨ le = [10]) : Uf.unfold (32 :: (vl ++ le)) = Lib.trimS vl Uf.blanks := by
  unfold oneLine at h
  rw [Bool.and_eq_true, Bool.not_eq_true', Bool.not_eq_true'] at h
  obtain ⟨h1, h2⟩ := h
  have h2' : vl.getLast? ≠ some 13 := by
    intro e
    rw [e] at h2
    simp at h2
  have hb : Uf.hasNL (32 :: vl) = false := by
    have h32 : ((32 : UInt8) = 10) = False := by decide
    simp only [Uf.hasNL, h32, if_false]
    exact h1
  rcases hle with rfl | rfl
  · have e : 32 :: (vl ++ [13, 10]) = ((32 :: vl) ++ [13]) ++ 10 :: [] := by simp
    have hn : Uf.hasNL ((32 :: vl) ++ [13]) = false := by rw [hasNL_app, hb]; decide
    have ha := noNL_app _ [] hn
    rw [e, Uf.unfold_one _ ha.2, ha.1, trimCR_cr, trimS_blank]
  · have e : 32 :: (vl ++ [10]) = (32 :: vl) ++ 10 :: [] := by simp
    have ha := noNL_app _ [] hb
    have hl : (32 :: vl).getLast? ≠ some 13 := by
      cases vl with
      | nil => decide
      | cons c r => rw [List.getLast?_cons_cons]; exact h2'
    rw [e, Uf.unfold_one _ ha.2, ha.1, trimCR_none _ hl, trimS_blank]
end Go.Proofs.Qxb6602839aDoor
