/-
  The plain law of seat b6602839aD: no Go in sight. What unfold and the law's automaton compute, as functions on bytes.
-/
import Derived.Lib.SlTrimSet
import Derived.Lib.IndexBytes
import Derived.Lib.IndexLaws
import Derived.Lib.Strings
namespace Go.Proofs.Qxb6602839aDoor.Uf

def blanks : List UInt8 := [32, 9]
def isBlank (c : UInt8) : Bool := c == 32 || c == 9
theorem blanks_contains (c : UInt8) : blanks.contains c = isBlank c := by
  unfold blanks isBlank
  simp only [List.contains, List.elem]
  cases (c == 32) <;> cases (c == 9) <;> rfl

/-- The line up to the first LF; what follows it. -/
def lineOf : List UInt8 → List UInt8
  | [] => []
  | c :: r => if c = 10 then [] else c :: lineOf r
def restOf : List UInt8 → List UInt8
  | [] => []
  | c :: r => if c = 10 then r else restOf r
def hasNL : List UInt8 → Bool
  | [] => false
  | c :: r => if c = 10 then true else hasNL r

theorem line_split : ∀ l, hasNL l = true → l = lineOf l ++ 10 :: restOf l
  | [], h => by simp [hasNL] at h
  | c :: r, h => by
    by_cases hc : c = 10
    · subst hc; simp [lineOf, restOf]
    · simp only [hasNL, if_neg hc] at h
      simp only [lineOf, restOf, if_neg hc, List.cons_append]
      rw [← line_split r h]
theorem line_all : ∀ l, hasNL l = false → lineOf l = l ∧ restOf l = []
  | [], _ => ⟨rfl, rfl⟩
  | c :: r, h => by
    by_cases hc : c = 10
    · subst hc; simp [hasNL] at h
    · simp only [hasNL, if_neg hc] at h
      have := line_all r h
      simp only [lineOf, restOf, if_neg hc]
      exact ⟨by rw [this.1], this.2⟩
theorem line_noNL : ∀ l, hasNL (lineOf l) = false
  | [] => rfl
  | c :: r => by
    by_cases hc : c = 10
    · subst hc; rfl
    · simp only [lineOf, if_neg hc, hasNL]; exact line_noNL r
theorem line_le (l : List UInt8) : (lineOf l).length ≤ l.length := by
  cases h : hasNL l
  · rw [(line_all l h).1]; exact Nat.le_refl _
  · have := congrArg List.length (line_split l h)
    rw [List.length_append] at this; omega
theorem rest_le (l : List UInt8) : (restOf l).length ≤ l.length := by
  cases h : hasNL l
  · rw [(line_all l h).2]; exact Nat.zero_le _
  · have := congrArg List.length (line_split l h)
    rw [List.length_append, List.length_cons] at this; omega
theorem rest_lt (l : List UInt8) (hl : l ≠ []) : (restOf l).length < l.length := by
  cases h : hasNL l
  · rw [(line_all l h).2]; exact List.length_pos_iff.2 hl
  · have := congrArg List.length (line_split l h)
    rw [List.length_append, List.length_cons] at this; omega

/-- The library's index of one LF. -/
theorem index_nl (l : List UInt8) : Lib.index l [10] = if hasNL l then ((lineOf l).length : Int) else -1 := by
  induction l with
  | nil => rfl
  | cons c r ih =>
    by_cases hc : c = 10
    · subst hc; rfl
    · have hp : List.isPrefixOf [10] (c :: r) = false := by
        simp [List.isPrefixOf]; exact fun h => hc h.symm
      unfold Lib.index
      rw [hp, ih]
      simp only [hasNL, lineOf, if_neg hc]
      cases hasNL r
      · rfl
      · simp only [if_true, List.length_cons]
        have : (((lineOf r).length : Int) == -1) = false := beq_eq_false_iff_ne.2 (by omega)
        rw [this]; simp

/-- One CR at the end is cut off. -/
def trimCR : List UInt8 → List UInt8
  | [] => []
  | [c] => if c = 13 then [] else [c]
  | c :: d :: r => c :: trimCR (d :: r)
theorem trimCR_suffix : ∀ l, trimCR l = if Lib.hasSuffix l [13] then l.take (l.length - 1) else l
  | [] => rfl
  | [c] => by
    unfold trimCR Lib.hasSuffix
    by_cases h : c = 13
    · subst h; rfl
    · have : List.isSuffixOf [13] [c] = false := by
        simp [List.isSuffixOf, List.isPrefixOf]; exact fun e => h e.symm
      rw [if_neg h, this]; rfl
  | c :: d :: r => by
    have ih := trimCR_suffix (d :: r)
    have hs : Lib.hasSuffix (c :: d :: r) [13] = Lib.hasSuffix (d :: r) [13] := by
      unfold Lib.hasSuffix List.isSuffixOf
      simp only [List.reverse_cons, List.reverse_nil, List.nil_append]
      cases h : (r.reverse ++ [d]) with
      | nil => simp at h
      | cons x y => simp [List.isPrefixOf]
    rw [trimCR, ih, hs]
    cases Lib.hasSuffix (d :: r) [13]
    · rfl
    · simp only [if_true, List.length_cons]
      rfl
theorem trimCR_le (l : List UInt8) : (trimCR l).length ≤ l.length := by
  rw [trimCR_suffix]; split
  · rw [List.length_take]; omega
  · exact Nat.le_refl _

/-- The law's automaton: 'a': an LF has just been read; 's': the blanks at a continuation's start are being dropped. -/
def auto : Bool → Bool → List UInt8 → List UInt8
  | _, _, [] => []
  | true, _, c :: r =>
    32 :: (if c = 10 then auto true false r
      else if c = 13 ∧ (r = [] ∨ r.head? = some 10) then auto false true r
      else if isBlank c = true then auto false true r
      else c :: auto false false r)
  | false, s, c :: r =>
    if c = 10 then auto true false r
    else if c = 13 ∧ (r = [] ∨ r.head? = some 10) then auto false s r
    else if s = true ∧ isBlank c = true then auto false s r
    else c :: auto false false r
theorem auto_nil (a s : Bool) : auto a s [] = [] := by cases a <;> rfl
theorem auto_true (s : Bool) (c : UInt8) (r : List UInt8) : auto true s (c :: r) = 32 :: auto false true (c :: r) := by
  simp only [auto, true_and]
theorem auto_false (s : Bool) (c : UInt8) (r : List UInt8) : auto false s (c :: r) = if c = 10 then auto true false r
    else if c = 13 ∧ (r = [] ∨ r.head? = some 10) then auto false s r
    else if s = true ∧ isBlank c = true then auto false s r
    else c :: auto false false r := rfl

theorem auto_le : ∀ (l : List UInt8) (a s : Bool), (auto a s l).length ≤ 2 * l.length
  | [], a, s => by rw [auto_nil]; exact Nat.zero_le _
  | c :: r, a, s => by
    have h1 := auto_le r true false
    have h2 := auto_le r false true
    have h3 := auto_le r false false
    cases a with
    | false =>
      rw [auto_false, List.length_cons]
      split
      · omega
      · split
        · cases s <;> omega
        · split
          · cases s <;> omega
          · rw [List.length_cons]; omega
    | true =>
      rw [auto_true, auto_false, List.length_cons, List.length_cons]
      split
      · omega
      · split
        · omega
        · split
          · omega
          · rw [List.length_cons]; omega

/-- A line's part of the output. -/
def out (s : Bool) (l : List UInt8) : List UInt8 := if s then Lib.trimLeftS l blanks else l
theorem left_cons (c : UInt8) (l : List UInt8) : Lib.trimLeftS (c :: l) blanks = if isBlank c then Lib.trimLeftS l blanks else c :: l := by
  unfold Lib.trimLeftS
  rw [List.dropWhile_cons, blanks_contains]
theorem cr_noBlank : isBlank 13 = false := by decide

/-- The automaton over one line and what follows it: 't' empty or opening with LF. -/
theorem auto_line : ∀ (l : List UInt8) (s : Bool) (t : List UInt8), hasNL l = false → (t = [] ∨ ∃ u, t = 10 :: u) → auto false s (l ++ t) = out s (trimCR l) ++ auto false s t
  | [], s, t, _, _ => by cases s <;> rfl
  | c :: l, s, t, h, ht => by
    have hc : c ≠ 10 := by intro e; subst e; simp [hasNL] at h
    simp only [hasNL, if_neg hc] at h
    rw [List.cons_append, auto_false, if_neg hc]
    have key : ∀ s', auto false s' t = auto false s t := by
      intro s'
      rcases ht with rfl | ⟨u, rfl⟩
      · rw [auto_nil, auto_nil]
      · rw [auto_false, auto_false, if_pos rfl, if_pos rfl]
    cases l with
    | nil =>
      rw [List.nil_append]
      by_cases h13 : c = 13
      · subst h13
        rw [if_pos ⟨rfl, by rcases ht with rfl | ⟨u, rfl⟩; exact Or.inl rfl; exact Or.inr rfl⟩]
        cases s <;> rfl
      · rw [if_neg (fun e => h13 e.1)]
        have ec : trimCR [c] = [c] := by simp [trimCR, h13]
        rw [ec]
        cases s with
        | false => rw [if_neg (by simp), key false]; rfl
        | true =>
          unfold out
          rw [if_pos rfl, left_cons]
          cases hb : isBlank c
          · rw [if_neg (by simp), key false]; rfl
          · rw [if_pos ⟨rfl, rfl⟩]; rfl
    | cons d r =>
      have hd : d ≠ 10 := by intro e; subst e; simp [hasNL] at h
      have hn : ¬ (c = 13 ∧ (d :: r ++ t = [] ∨ (d :: r ++ t).head? = some 10)) := by
        rintro ⟨_, h1 | h1⟩
        · simp at h1
        · simp at h1; exact hd h1
      rw [if_neg hn]
      have ec : trimCR (c :: d :: r) = c :: trimCR (d :: r) := rfl
      rw [ec]
      have ih := auto_line (d :: r)
      cases s with
      | false =>
        rw [if_neg (by simp), ih false t h ht]; rfl
      | true =>
        unfold out
        rw [if_pos rfl, left_cons]
        cases hb : isBlank c
        · rw [if_neg (by simp), ih false t h ht, key false]; rfl
        · rw [if_pos ⟨rfl, rfl⟩, ih true t h ht]; rfl

/-- One round of unfold's loop: a line, written, and what is left. -/
theorem auto_round (first : Bool) (r : List UInt8) (hr : r ≠ []) :
    auto (!first) false r = (if first then trimCR (lineOf r) else 32 :: Lib.trimLeftS (trimCR (lineOf r)) blanks) ++ auto true false (restOf r) := by
  have key : ∀ s, auto false s r = out s (trimCR (lineOf r)) ++ auto true false (restOf r) := by
    intro s
    cases h : hasNL r with
    | true =>
      have e := line_split r h
      have h1 := auto_line (lineOf r) s (10 :: restOf r) (line_noNL r) (Or.inr ⟨_, rfl⟩)
      rw [← e, auto_false, if_pos rfl] at h1
      exact h1
    | false =>
      have e := line_all r h
      have h1 := auto_line (lineOf r) s [] (line_noNL r) (Or.inl rfl)
      rw [List.append_nil, auto_nil] at h1
      rw [e.2, auto_nil, ← h1, e.1]
  cases first with
  | true => exact key false
  | false =>
    cases r with
    | nil => exact absurd rfl hr
    | cons c t =>
      show auto true false (c :: t) = _
      rw [auto_true, key true]
      rfl

/-- What unfold hands back. -/
def unfold (l : List UInt8) : List UInt8 := Lib.trimS (auto false false l) blanks
/-- At a text of one line. -/
theorem unfold_one (l : List UInt8) (h : restOf l = []) : unfold l = Lib.trimS (trimCR (lineOf l)) blanks := by
  unfold unfold
  cases l with
  | nil => rfl
  | cons c r =>
    have := auto_round true (c :: r) (by simp)
    rw [h, auto_nil, List.append_nil] at this
    rw [show auto false false (c :: r) = auto (!true) false (c :: r) from rfl, this]
    rfl

theorem left_le (l cs : List UInt8) : (Lib.trimLeftS l cs).length ≤ l.length := by
  unfold Lib.trimLeftS
  induction l with
  | nil => exact Nat.le_refl _
  | cons c r ih => rw [List.dropWhile_cons]; split
                   · rw [List.length_cons]; omega
                   · exact Nat.le_refl _

end Go.Proofs.Qxb6602839aDoor.Uf
