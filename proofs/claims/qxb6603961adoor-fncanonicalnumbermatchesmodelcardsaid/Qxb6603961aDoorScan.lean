/-
  Seat b6603961aD: what scanNumber answers, and the automaton's invariant: no Go in sight.
-/
import Derived.Test.Qxb6603961aDoorNum
namespace Go.Proofs.Qxb6603961aDoor.Nb

/-- The length of the digit run ahead. -/
def run : List UInt8 → Nat
  | [] => 0
  | c :: r => if isDig c = true then run r + 1 else 0
theorem run_dig {c : UInt8} (r : List UInt8) (h : isDig c = true) : run (c :: r) = run r + 1 := by
  show (if isDig c = true then run r + 1 else 0) = _
  rw [if_pos h]
theorem run_not {c : UInt8} (r : List UInt8) (h : isDig c = false) : run (c :: r) = 0 := by
  show (if isDig c = true then run r + 1 else 0) = _
  rw [if_neg (by rw [h]; decide)]
theorem run_le (l : List UInt8) : run l ≤ l.length := by
  induction l with
  | nil => exact Nat.le_refl _
  | cons c r ih =>
    cases h : isDig c with
    | true => rw [run_dig r h, List.length_cons]; omega
    | false => rw [run_not r h]; omega
theorem run_all (l : List UInt8) : allDig (l.take (run l)) = true := by
  induction l with
  | nil => rfl
  | cons c r ih =>
    cases h : isDig c with
    | true => rw [run_dig r h, List.take_succ_cons]; exact (allDig_cons _ _).2 ⟨h, ih⟩
    | false => rw [run_not r h]; rfl

abbrev Parts := Bool × List UInt8 × List UInt8 × Bool × List UInt8
def scanD (n : Bool) (a f : List UInt8) (en : Bool) (s : List UInt8) : Option Parts :=
  if run s = 0 then none else if s.drop (run s) = [] then some (n, a, f, en, s.take (run s)) else none
def scanX (n : Bool) (a f : List UInt8) (s : List UInt8) : Option Parts :=
  if s.head? = some 43 ∨ s.head? = some 45 then scanD n a f (decide (s.head? = some 45)) s.tail else scanD n a f false s
def scanE (n : Bool) (a f : List UInt8) (s : List UInt8) : Option Parts :=
  if s.head? = some 101 ∨ s.head? = some 69 then scanX n a f s.tail else if s = [] then some (n, a, f, false, []) else none
def scanP (n : Bool) (a : List UInt8) (s : List UInt8) : Option Parts :=
  if run s = 0 then none else scanE n a (s.take (run s)) (s.drop (run s))
def scanF (n : Bool) (a : List UInt8) (s : List UInt8) : Option Parts :=
  if s.head? = some 46 then scanP n a s.tail else scanE n a [] s
def scanI (n : Bool) (s : List UInt8) : Option Parts :=
  if run s = 0 ∨ (1 < run s ∧ s.head? = some 48) then none else scanF n (s.take (run s)) (s.drop (run s))
def scan (t : List UInt8) : Option Parts := if t.head? = some 45 then scanI true t.tail else scanI false t

/-! ### What the parts are -/
def POk (N : Nat) (P : Parts) : Prop := allDig P.2.1 = true ∧ P.2.1 ≠ [] ∧ allDig P.2.2.1 = true ∧ allDig P.2.2.2.2 = true ∧ P.2.1.length + P.2.2.1.length + P.2.2.2.2.length ≤ N
theorem scanD_ok {n : Bool} {a f : List UInt8} {en : Bool} {s : List UInt8} {P : Parts} {N : Nat} (h : scanD n a f en s = some P) (ha : allDig a = true) (ha0 : a ≠ []) (hf : allDig f = true) (hN : a.length + f.length + s.length ≤ N) : POk N P := by
  unfold scanD at h
  split at h
  · cases h
  · split at h
    · cases h
      refine ⟨ha, ha0, hf, run_all s, ?_⟩
      show a.length + f.length + (s.take (run s)).length ≤ N
      rw [List.length_take]
      omega
    · cases h
theorem scanX_ok {n : Bool} {a f : List UInt8} {s : List UInt8} {P : Parts} {N : Nat} (h : scanX n a f s = some P) (ha : allDig a = true) (ha0 : a ≠ []) (hf : allDig f = true) (hN : a.length + f.length + s.length ≤ N) : POk N P := by
  unfold scanX at h
  split at h
  · exact scanD_ok h ha ha0 hf (by rw [List.length_tail]; omega)
  · exact scanD_ok h ha ha0 hf hN
theorem scanE_ok {n : Bool} {a f : List UInt8} {s : List UInt8} {P : Parts} {N : Nat} (h : scanE n a f s = some P) (ha : allDig a = true) (ha0 : a ≠ []) (hf : allDig f = true) (hN : a.length + f.length + s.length ≤ N) : POk N P := by
  unfold scanE at h
  split at h
  · exact scanX_ok h ha ha0 hf (by rw [List.length_tail]; omega)
  · split at h
    · cases h
      exact ⟨ha, ha0, hf, rfl, by show a.length + f.length + 0 ≤ N; omega⟩
    · cases h
theorem scanF_ok {n : Bool} {a : List UInt8} {s : List UInt8} {P : Parts} {N : Nat} (h : scanF n a s = some P) (ha : allDig a = true) (ha0 : a ≠ []) (hN : a.length + s.length ≤ N) : POk N P := by
  unfold scanF at h
  split at h
  · unfold scanP at h
    split at h
    · cases h
    · refine scanE_ok h ha ha0 (run_all _) ?_
      have := run_le s.tail
      rw [List.length_take, List.length_drop]
      rw [List.length_tail] at this ⊢
      omega
  · exact scanE_ok h ha ha0 rfl (by rw [List.length_nil]; omega)
theorem scanI_ok {n : Bool} {s : List UInt8} {P : Parts} {N : Nat} (h : scanI n s = some P) (hN : s.length ≤ N) : POk N P := by
  unfold scanI at h
  split at h
  · cases h
  · rename_i hr
    have := run_le s
    refine scanF_ok h (run_all _) ?_ (by rw [List.length_take, List.length_drop]; omega)
    intro e
    have := congrArg List.length e
    rw [List.length_take, List.length_nil] at this
    exact hr (Or.inl (by omega))
theorem scan_ok {t : List UInt8} {P : Parts} (h : scan t = some P) : POk t.length P := by
  unfold scan at h
  split at h
  · exact scanI_ok h (by rw [List.length_tail]; omega)
  · exact scanI_ok h (Nat.le_refl _)

/-! ### The automaton's invariant -/
def sl (t : List UInt8) (a b : Nat) : List UInt8 := (t.drop a).take (b - a)
theorem sl_snoc {t : List UInt8} {a i : Nat} {c : UInt8} (h : a ≤ i) (hd : t.drop i = c :: t.drop (i + 1)) : sl t a (i + 1) = sl t a i ++ [c] := by
  unfold sl
  have hi : i < t.length := by
    rcases Nat.lt_or_ge i t.length with h' | h'
    · exact h'
    · rw [List.drop_eq_nil_of_le h'] at hd
      cases hd
  have hc : t[i] = c := by
    rw [List.drop_eq_getElem_cons hi] at hd
    exact (List.cons.inj hd).1
  rw [show i + 1 - a = (i - a) + 1 from by omega, List.take_add_one, List.getElem?_drop, show a + (i - a) = i from by omega, List.getElem?_eq_getElem hi, hc]
  rfl
theorem sl_one {t : List UInt8} {i : Nat} {c : UInt8} (hd : t.drop i = c :: t.drop (i + 1)) : sl t i (i + 1) = [c] := by
  rw [sl_snoc (Nat.le_refl _) hd]
  unfold sl
  rw [Nat.sub_self, List.take_zero]
  rfl
theorem sl_end {t : List UInt8} {a i : Nat} (h : t.drop i = []) : sl t a i = t.drop a := by
  unfold sl
  have hl := congrArg List.length h
  rw [List.length_drop, List.length_nil] at hl
  exact List.take_of_length_le (by rw [List.length_drop]; omega)

def goI (n : Bool) (a s : List UInt8) : Option Parts := scanF n (a ++ s.take (run s)) (s.drop (run s))
def goF (n : Bool) (a f s : List UInt8) : Option Parts := scanE n a (f ++ s.take (run s)) (s.drop (run s))
def goD (n : Bool) (a f : List UInt8) (en : Bool) (x s : List UInt8) : Option Parts := if s.drop (run s) = [] then some (n, a, f, en, x ++ s.take (run s)) else none
def fr (t : List UInt8) (hf : Bool) (fs fe : Nat) : List UInt8 := if hf = true then sl t fs fe else []

def Inv0 (t : List UInt8) (n en hf : Bool) (i : Nat) : Prop := i = 0 ∧ n = false ∧ en = false ∧ hf = false ∧ scan t = scan t
def Inv1 (t : List UInt8) (n en hf : Bool) (i : Nat) : Prop := en = false ∧ hf = false ∧ scan t = scanI n (t.drop i)
def Inv2 (t : List UInt8) (n en hf : Bool) (is i : Nat) : Prop := en = false ∧ hf = false ∧ is ≤ i ∧ scan t = scanF n (sl t is i) (t.drop i)
def Inv3 (t : List UInt8) (n en hf : Bool) (is i : Nat) : Prop := en = false ∧ hf = false ∧ is ≤ i ∧ scan t = goI n (sl t is i) (t.drop i)
def Inv4 (t : List UInt8) (n en hf : Bool) (is ie i : Nat) : Prop := en = false ∧ hf = false ∧ is ≤ ie ∧ ie ≤ i ∧ scan t = scanP n (sl t is ie) (t.drop i)
def Inv5 (t : List UInt8) (n en hf : Bool) (is ie fs i : Nat) : Prop := en = false ∧ hf = true ∧ is ≤ ie ∧ ie ≤ i ∧ fs ≤ i ∧ scan t = goF n (sl t is ie) (sl t fs i) (t.drop i)
def Inv6 (t : List UInt8) (n en hf : Bool) (is ie fs fe i : Nat) : Prop := en = false ∧ is ≤ ie ∧ ie ≤ i ∧ (hf = true → fs ≤ fe ∧ fe ≤ i) ∧ scan t = scanX n (sl t is ie) (fr t hf fs fe) (t.drop i)
def Inv7 (t : List UInt8) (n en hf : Bool) (is ie fs fe i : Nat) : Prop := is ≤ ie ∧ ie ≤ i ∧ (hf = true → fs ≤ fe ∧ fe ≤ i) ∧ scan t = scanD n (sl t is ie) (fr t hf fs fe) en (t.drop i)
def Inv8 (t : List UInt8) (n en hf : Bool) (is ie fs fe es i : Nat) : Prop := is ≤ ie ∧ ie ≤ i ∧ (hf = true → fs ≤ fe ∧ fe ≤ i) ∧ es ≤ i ∧ scan t = goD n (sl t is ie) (fr t hf fs fe) en (sl t es i) (t.drop i)

section
variable {t : List UInt8} {n en hf : Bool} {is ie fs fe es i : Nat} {c : UInt8}

theorem inv_start (t : List UInt8) : Inv0 t false false false 0 := ⟨rfl, rfl, rfl, rfl, rfl⟩
theorem inv0_minus (h : Inv0 t n en hf i) (hd : t.drop i = 45 :: t.drop (i + 1)) : Inv1 t true en hf (i + 1) := by
  obtain ⟨rfl, rfl, rfl, rfl, -⟩ := h
  refine ⟨rfl, rfl, ?_⟩
  rw [List.drop_zero] at hd
  unfold scan
  rw [if_pos (by rw [hd]; rfl), List.drop_one]
theorem inv0_other (h : Inv0 t n en hf i) (hd : t.drop i = c :: t.drop (i + 1)) (hc : c ≠ 45) : Inv1 t n en hf i := by
  obtain ⟨rfl, rfl, rfl, rfl, -⟩ := h
  refine ⟨rfl, rfl, ?_⟩
  rw [List.drop_zero] at hd ⊢
  unfold scan
  rw [if_neg (by rw [hd]; exact fun e => hc (Option.some.inj e))]
theorem inv0_end (h : Inv0 t n en hf i) (hd : t.drop i = []) : scan t = none := by
  obtain ⟨rfl, rfl, rfl, rfl, -⟩ := h
  rw [List.drop_zero] at hd
  subst hd
  rfl
theorem inv1_zero (h : Inv1 t n en hf i) (hd : t.drop i = 48 :: t.drop (i + 1)) : Inv2 t n en hf i (i + 1) := by
  obtain ⟨h1, h2, h3⟩ := h
  refine ⟨h1, h2, by omega, ?_⟩
  rw [h3, hd, sl_one hd]
  generalize t.drop (i + 1) = r
  unfold scanI
  rw [run_dig r (by decide)]
  cases r with
  | nil => rfl
  | cons d s =>
    cases hdd : isDig d with
    | true =>
      rw [if_pos (Or.inr ⟨by rw [run_dig s hdd]; omega, rfl⟩)]
      have hh := (isDig_iff d).1 hdd
      unfold scanF scanE
      rw [if_neg, if_neg, if_neg (by simp)]
      · intro e
        rcases e with e | e
        · have := Option.some.inj e; subst this; revert hh; decide
        · have := Option.some.inj e; subst this; revert hh; decide
      · intro e
        have := Option.some.inj e; subst this; revert hh; decide
    | false =>
      rw [run_not s hdd, if_neg (by simp)]
      rfl
theorem inv1_dig (h : Inv1 t n en hf i) (hd : t.drop i = c :: t.drop (i + 1)) (hc : isDig c = true) (h0 : c ≠ 48) : Inv3 t n en hf i (i + 1) := by
  obtain ⟨h1, h2, h3⟩ := h
  refine ⟨h1, h2, by omega, ?_⟩
  rw [h3, hd, sl_one hd]
  unfold scanI goI
  rw [run_dig _ hc, if_neg (by intro e; rcases e with e | ⟨-, e⟩; exact absurd e (by omega); exact h0 (Option.some.inj e))]
  rfl
theorem inv1_bad (h : Inv1 t n en hf i) (hd : t.drop i = c :: t.drop (i + 1)) (hc : isDig c = false) : scan t = none := by
  rw [h.2.2, hd]
  unfold scanI
  rw [run_not _ hc, if_pos (Or.inl rfl)]
theorem inv1_end (h : Inv1 t n en hf i) (hd : t.drop i = []) : scan t = none := by
  rw [h.2.2, hd]
  rfl
theorem inv3_dig (h : Inv3 t n en hf is i) (hd : t.drop i = c :: t.drop (i + 1)) (hc : isDig c = true) : Inv3 t n en hf is (i + 1) := by
  obtain ⟨h1, h2, h3, h4⟩ := h
  refine ⟨h1, h2, by omega, ?_⟩
  rw [h4, hd, sl_snoc h3 hd]
  unfold goI
  rw [run_dig _ hc, List.take_succ_cons, List.append_assoc]
  rfl
/-- The integer part ends here. -/
theorem inv3_two (h : Inv3 t n en hf is i) (hd : t.drop i = c :: t.drop (i + 1)) (hc : isDig c = false) : Inv2 t n en hf is i := by
  obtain ⟨h1, h2, h3, h4⟩ := h
  refine ⟨h1, h2, h3, ?_⟩
  rw [h4, hd]
  unfold goI
  rw [run_not _ hc, List.take_zero, List.append_nil]
  rfl
theorem inv2_dot (h : Inv2 t n en hf is i) (hd : t.drop i = 46 :: t.drop (i + 1)) : Inv4 t n en hf is i (i + 1) := by
  obtain ⟨h1, h2, h3, h4⟩ := h
  refine ⟨h1, h2, h3, by omega, ?_⟩
  rw [h4, hd]
  rfl
theorem inv2_e (h : Inv2 t n en hf is i) (hd : t.drop i = c :: t.drop (i + 1)) (hc : c = 101 ∨ c = 69) : Inv6 t n en hf is i fs fe (i + 1) := by
  obtain ⟨h1, h2, h3, h4⟩ := h
  subst h2
  refine ⟨h1, h3, by omega, (fun h => by cases h), ?_⟩
  rw [h4, hd]
  rcases hc with rfl | rfl <;> rfl
theorem inv2_bad (h : Inv2 t n en hf is i) (hd : t.drop i = c :: t.drop (i + 1)) (h1 : c ≠ 46) (h2 : c ≠ 101) (h3 : c ≠ 69) : scan t = none := by
  rw [h.2.2.2, hd]
  unfold scanF scanE
  rw [if_neg (show ¬ (c :: t.drop (i + 1)).head? = some 46 from fun e => h1 (Option.some.inj e)), if_neg, if_neg (by simp)]
  rintro (e | e)
  · exact h2 (Option.some.inj e)
  · exact h3 (Option.some.inj e)
theorem inv2_end (h : Inv2 t n en hf is i) (hd : t.drop i = []) : scan t = some (n, t.drop is, [], false, []) := by
  rw [h.2.2.2, hd, sl_end hd]
  rfl
theorem inv3_end (h : Inv3 t n en hf is i) (hd : t.drop i = []) : scan t = some (n, t.drop is, [], false, []) := by
  rw [h.2.2.2, hd, sl_end hd]
  unfold goI
  show scanF n (t.drop is ++ []) [] = _
  rw [List.append_nil]
  rfl
theorem inv4_dig (h : Inv4 t n en hf is ie i) (hd : t.drop i = c :: t.drop (i + 1)) (hc : isDig c = true) : Inv5 t n en true is ie i (i + 1) := by
  obtain ⟨h1, h2, h3, h4, h5⟩ := h
  refine ⟨h1, rfl, h3, by omega, by omega, ?_⟩
  rw [h5, hd, sl_one hd]
  unfold scanP goF
  rw [run_dig _ hc, if_neg (by omega)]
  rfl
theorem inv4_bad (h : Inv4 t n en hf is ie i) (hd : t.drop i = c :: t.drop (i + 1)) (hc : isDig c = false) : scan t = none := by
  rw [h.2.2.2.2, hd]
  unfold scanP
  rw [run_not _ hc, if_pos rfl]
theorem inv4_end (h : Inv4 t n en hf is ie i) (hd : t.drop i = []) : scan t = none := by
  rw [h.2.2.2.2, hd]
  rfl
theorem inv5_dig (h : Inv5 t n en hf is ie fs i) (hd : t.drop i = c :: t.drop (i + 1)) (hc : isDig c = true) : Inv5 t n en hf is ie fs (i + 1) := by
  obtain ⟨h1, h2, h3, h4, h5, h6⟩ := h
  refine ⟨h1, h2, h3, by omega, by omega, ?_⟩
  rw [h6, hd, sl_snoc h5 hd]
  unfold goF
  rw [run_dig _ hc, List.take_succ_cons, List.append_assoc]
  rfl
theorem notdig_e (hc : c = 101 ∨ c = 69) : isDig c = false := by rcases hc with rfl | rfl <;> decide
theorem inv5_e (h : Inv5 t n en hf is ie fs i) (hd : t.drop i = c :: t.drop (i + 1)) (hc : c = 101 ∨ c = 69) : Inv6 t n en hf is ie fs i (i + 1) := by
  obtain ⟨h1, h2, h3, h4, h5, h6⟩ := h
  subst h2
  refine ⟨h1, h3, by omega, fun _ => ⟨h5, by omega⟩, ?_⟩
  rw [h6, hd]
  unfold goF
  rw [run_not _ (notdig_e hc), List.take_zero, List.append_nil]
  rcases hc with rfl | rfl <;> rfl
theorem inv5_bad (h : Inv5 t n en hf is ie fs i) (hd : t.drop i = c :: t.drop (i + 1)) (hc : isDig c = false) (h2 : c ≠ 101) (h3 : c ≠ 69) : scan t = none := by
  rw [h.2.2.2.2.2, hd]
  unfold goF scanE
  rw [run_not _ hc, if_neg, if_neg (by simp)]
  rintro (e | e)
  · exact h2 (Option.some.inj e)
  · exact h3 (Option.some.inj e)
theorem inv5_end (h : Inv5 t n en hf is ie fs i) (hd : t.drop i = []) : scan t = some (n, sl t is ie, t.drop fs, false, []) := by
  rw [h.2.2.2.2.2, hd, sl_end hd]
  unfold goF
  show scanE n _ (t.drop fs ++ []) [] = _
  rw [List.append_nil]
  rfl
theorem inv6_sign (h : Inv6 t n en hf is ie fs fe i) (hd : t.drop i = c :: t.drop (i + 1)) (hc : c = 43 ∨ c = 45) : Inv7 t n (decide (c = 45)) hf is ie fs fe (i + 1) := by
  obtain ⟨h1, h2, h3, h4, h5⟩ := h
  refine ⟨h2, by omega, fun h => ⟨(h4 h).1, by have := (h4 h).2; omega⟩, ?_⟩
  rw [h5, hd]
  rcases hc with rfl | rfl <;> rfl
theorem inv6_dig (h : Inv6 t n en hf is ie fs fe i) (hd : t.drop i = c :: t.drop (i + 1)) (h1 : c ≠ 43) (h2 : c ≠ 45) : Inv7 t n en hf is ie fs fe i := by
  obtain ⟨h0, h3, h4, h5, h6⟩ := h
  subst h0
  refine ⟨h3, h4, h5, ?_⟩
  rw [h6, hd]
  unfold scanX
  rw [if_neg]
  rintro (e | e)
  · exact h1 (Option.some.inj e)
  · exact h2 (Option.some.inj e)
theorem inv6_end (h : Inv6 t n en hf is ie fs fe i) (hd : t.drop i = []) : scan t = none := by
  rw [h.2.2.2.2, hd]
  rfl
theorem inv7_dig (h : Inv7 t n en hf is ie fs fe i) (hd : t.drop i = c :: t.drop (i + 1)) (hc : isDig c = true) : Inv8 t n en hf is ie fs fe i (i + 1) := by
  obtain ⟨h1, h2, h3, h4⟩ := h
  refine ⟨h1, by omega, fun h => ⟨(h3 h).1, by have := (h3 h).2; omega⟩, by omega, ?_⟩
  rw [h4, hd, sl_one hd]
  unfold scanD goD
  rw [run_dig _ hc, if_neg (by omega)]
  rfl
theorem inv7_bad (h : Inv7 t n en hf is ie fs fe i) (hd : t.drop i = c :: t.drop (i + 1)) (hc : isDig c = false) : scan t = none := by
  rw [h.2.2.2, hd]
  unfold scanD
  rw [run_not _ hc, if_pos rfl]
theorem inv7_end (h : Inv7 t n en hf is ie fs fe i) (hd : t.drop i = []) : scan t = none := by
  rw [h.2.2.2, hd]
  rfl
theorem inv8_dig (h : Inv8 t n en hf is ie fs fe es i) (hd : t.drop i = c :: t.drop (i + 1)) (hc : isDig c = true) : Inv8 t n en hf is ie fs fe es (i + 1) := by
  obtain ⟨h1, h2, h3, h4, h5⟩ := h
  refine ⟨h1, by omega, fun h => ⟨(h3 h).1, by have := (h3 h).2; omega⟩, by omega, ?_⟩
  rw [h5, hd, sl_snoc h4 hd]
  unfold goD
  rw [run_dig _ hc, List.take_succ_cons, List.append_assoc]
  rfl
theorem inv8_bad (h : Inv8 t n en hf is ie fs fe es i) (hd : t.drop i = c :: t.drop (i + 1)) (hc : isDig c = false) : scan t = none := by
  rw [h.2.2.2.2, hd]
  unfold goD
  rw [run_not _ hc, if_neg (by simp)]
theorem inv8_end (h : Inv8 t n en hf is ie fs fe es i) (hd : t.drop i = []) : scan t = some (n, sl t is ie, fr t hf fs fe, en, t.drop es) := by
  rw [h.2.2.2.2, hd, sl_end hd]
  unfold goD
  rw [if_pos (by rfl)]
  show some (n, sl t is ie, fr t hf fs fe, en, t.drop es ++ []) = _
  rw [List.append_nil]
end
end Go.Proofs.Qxb6603961aDoor.Nb
