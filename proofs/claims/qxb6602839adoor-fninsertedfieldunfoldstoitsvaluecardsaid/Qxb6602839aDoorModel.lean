/-
  Seat b6602839aD: the walk of unfoldModel.
-/
import Derived.Test.Qxb6602839aDoorTrimTab
namespace Go.Proofs.Qxb6602839aDoor
open Go.Shelf Go.RowKit

/-- What holds at each round's head: k bytes are read, acc is written. -/
def AmRel (l : List UInt8) (w : World) (k : Nat) (a s : Bool) (acc : List UInt8) (v : Value) (wr : World) : Prop :=
  wr.ownsRow w.heap.size 5 1 v acc.length (Lib.byteCells acc) ∧ Below w.heap.size w wr ∧ acc ++ Uf.auto a s (l.drop k) = Uf.auto false false l
theorem AmRel.bound {l : List UInt8} {w : World} {k : Nat} {a s : Bool} {acc : List UInt8} {v : Value} {wr : World} (h : AmRel l w k a s acc v wr) : acc.length ≤ 2 * l.length := by
  have h1 := congrArg List.length h.2.2
  have h2 := Uf.auto_le l false false
  rw [List.length_append] at h1
  omega
theorem own_app {B : Nat} {acc : List UInt8} {c : UInt8} {v' : Value} {w1 : World} (h : w1.ownsRow B 5 1 v' (acc.length + 1) (Lib.byteCells acc ++ [.int .u8 (c.toNat : Int)])) : w1.ownsRow B 5 1 v' (acc ++ [c]).length (Lib.byteCells (acc ++ [c])) := by
  have : Lib.byteCells (acc ++ [c]) = Lib.byteCells acc ++ [.int .u8 (c.toNat : Int)] := by simp [Lib.byteCells]
  rw [this, List.length_append]; exact h
theorem app_below {B : Nat} {acc : List UInt8} {v : Value} {wr w1 : World} {o : Obj} (hown : wr.ownsRow B 5 1 v acc.length (Lib.byteCells acc)) (hB : B ≤ wr.heap.size) (hg : (wr.alloc o).grownBy w1 v.ownBlock) : Below B wr w1 :=
  ((Below.refl B wr).alloc hB o).grown hg (Nat.le_trans hB (lit_below wr o).size) (fun k hk => (hown.lt k hk).1)
theorem drop_at (l : List UInt8) (k : Nat) (h : k < l.length) : l.drop k = l[k] :: l.drop (k + 1) := List.drop_eq_getElem_cons h

theorem AmRel.space {l : List UInt8} {w : World} {k : Nat} {s : Bool} {acc : List UInt8} {v v' : Value} {wr w1 : World} {o : Obj} (h : AmRel l w k true s acc v wr) (hk : k < l.length)
    (hown' : w1.ownsRow w.heap.size 5 1 v' (acc.length + 1) (Lib.byteCells acc ++ [.int .u8 32])) (hg : (wr.alloc o).grownBy w1 v.ownBlock) : AmRel l w k false true (acc ++ [32]) v' w1 := by
  obtain ⟨h1, h2, h3⟩ := h
  refine ⟨own_app (c := 32) hown', h2.trans (app_below h1 h2.size hg), ?_⟩
  rw [drop_at l k hk, Uf.auto_true] at h3
  rw [drop_at l k hk, List.append_assoc]
  exact h3
theorem AmRel.lf {l : List UInt8} {w : World} {k : Nat} {s : Bool} {acc : List UInt8} {v : Value} {wr : World} (h : AmRel l w k false s acc v wr) (hk : k < l.length) (hc : l[k] = 10) : AmRel l w (k + 1) true false acc v wr := by
  obtain ⟨h1, h2, h3⟩ := h
  refine ⟨h1, h2, ?_⟩
  rw [drop_at l k hk, Uf.auto_false, if_pos hc] at h3
  exact h3
theorem AmRel.cr {l : List UInt8} {w : World} {k : Nat} {s : Bool} {acc : List UInt8} {v : Value} {wr : World} (h : AmRel l w k false s acc v wr) (hk : k < l.length) (hc : l[k] = 13) (hn : k + 1 = l.length ∨ l[k + 1]? = some 10) : AmRel l w (k + 1) false s acc v wr := by
  obtain ⟨h1, h2, h3⟩ := h
  refine ⟨h1, h2, ?_⟩
  have hq : l.drop (k + 1) = [] ∨ (l.drop (k + 1)).head? = some 10 := by
    rcases hn with hn | hn
    · exact Or.inl (List.drop_of_length_le (by omega))
    · refine Or.inr ?_
      rw [List.head?_drop]; exact hn
  rw [drop_at l k hk, Uf.auto_false, if_neg (by rw [hc]; decide), if_pos ⟨hc, hq⟩] at h3
  exact h3
theorem AmRel.skip {l : List UInt8} {w : World} {k : Nat} {acc : List UInt8} {v : Value} {wr : World} (h : AmRel l w k false true acc v wr) (hk : k < l.length) (hc : Uf.isBlank l[k] = true) : AmRel l w (k + 1) false true acc v wr := by
  obtain ⟨h1, h2, h3⟩ := h
  refine ⟨h1, h2, ?_⟩
  have h10 : l[k] ≠ 10 := by intro e; rw [e] at hc; revert hc; decide
  have h13 : l[k] ≠ 13 := by intro e; rw [e] at hc; revert hc; decide
  rw [drop_at l k hk, Uf.auto_false, if_neg h10, if_neg (fun e => h13 e.1), if_pos ⟨rfl, hc⟩] at h3
  exact h3
theorem AmRel.keep {l : List UInt8} {w : World} {k : Nat} {s : Bool} {acc : List UInt8} {v v' : Value} {wr w1 : World} {o : Obj} (h : AmRel l w k false s acc v wr) (hk : k < l.length)
    (h10 : l[k] ≠ 10) (h13 : ¬ (l[k] = 13 ∧ (k + 1 = l.length ∨ l[k + 1]? = some 10))) (hs : ¬ (s = true ∧ Uf.isBlank l[k] = true))
    (hown' : w1.ownsRow w.heap.size 5 1 v' (acc.length + 1) (Lib.byteCells acc ++ [.int .u8 (l[k].toNat : Int)])) (hg : (wr.alloc o).grownBy w1 v.ownBlock) : AmRel l w (k + 1) false false (acc ++ [l[k]]) v' w1 := by
  obtain ⟨h1, h2, h3⟩ := h
  refine ⟨own_app hown', h2.trans (app_below h1 h2.size hg), ?_⟩
  rw [drop_at l k hk, Uf.auto_false, if_neg h10, if_neg ?_, if_neg hs] at h3
  · rw [List.append_assoc]; exact h3
  · rintro ⟨e1, e2⟩
    apply h13
    refine ⟨e1, ?_⟩
    rcases e2 with e2 | e2
    · refine Or.inl ?_
      have := congrArg List.length e2
      rw [List.length_drop] at this
      simp at this
      omega
    · refine Or.inr ?_
      rw [List.head?_drop] at e2; exact e2
theorem AmRel.start {l : List UInt8} {w wr : World} {v : Value} (hown : wr.ownsRow w.heap.size 5 1 v 0 []) (hg : w.grownBy wr none) : AmRel l w 0 false false [] v wr :=
  ⟨hown, (Below.refl _ _).grown hg (Nat.le_refl _) (fun k hk => by cases hk), rfl⟩
theorem byte_eq (c : UInt8) (n : Nat) (hn : n < 256) (h : ((c.toNat : Int) == (n : Int)) = true) : c = UInt8.ofNat n := by
  have h1 : (c.toNat : Int) = (n : Int) := beq_iff_eq.1 h
  apply UInt8.toNat.inj
  rw [UInt8.toNat_ofNat']; omega
theorem byte_ne (c : UInt8) (d : UInt8) (h : ((c.toNat : Int) == (d.toNat : Int)) = false) : c ≠ d := by
  intro e; rw [e] at h; simp at h

/-- A string of an owned row's bytes. -/
theorem own_conv {B : Nat} {acc : List UInt8} {v : Value} {w : World} (h : w.ownsRow B 5 1 v acc.length (Lib.byteCells acc)) : (convert 22 9 v).run Tryd.prog w = .ok (.string ⟨acc.toArray⟩) w := by
  rcases h.2 with ⟨rfl, h0⟩ | ⟨g, cap, cur, rfl, -, hg, -⟩
  · have hl : acc = [] := List.eq_nil_of_length_eq_zero h0
    subst hl
    exact (Sl.nil w 0).conv
  · refine run_convert_bytes_back (P := Tryd.prog) w 22 9 5 ⟨g, 0, none⟩ cap acc Tryd.underlying22 Tryd.underlying5 Tryd.underlying9 (fun j hj => ?_)
    have := h.cells (g := g) rfl j (.int .u8 (acc[j].toNat : Int)) (by simp [Lib.byteCells, hj])
    exact this

set_option maxHeartbeats 4000000 in
theorem model_any (p : Option Addr) (n c : Nat) (l : List UInt8) (w : World) (h : Sl w w.heap.size p n c l) (hn : n ≤ 1048576) :
    Calls Tryd.prog 9 #[.slice p n c] w fun e w' => e = .returned (.string ⟨(Uf.unfold l).toArray⟩) ∧ Below w.heap.size w w' := by
  obtain ⟨i0, hi, hz0, hz1, hz2⟩ := info_parts info5
  have HS : Hid (Sl w w.heap.size p n c l) := h
  clear h
  go_enter Tryd.func9, Tryd.ntmps9
  go_wp2_with (at_make; refine wpList_make_own _ rfl _ _ 22 rfl w.heap.size 5 i0 (.int .u8 0) 1 Tryd.underlying22 hi hz0 hz1 .i64 .i64 _ n rfl rfl rfl ?b2 ?b3 ?b4 ?_)
  case b2 => rw [hz2]; omega
  case b3 => unfold maxLen; omega
  case b4 => exact Nat.le_refl _
  intro w1 hown hgrow
  have HA : Hid (AmRel l w 0 false false [] (.slice (some ⟨w.heap.size, 0, none⟩) 0 n) w1) := AmRel.start hown hgrow
  clear hown hgrow
  go_wp2
  go_loopw [3, 4, 5, 6] (fun v av sv i wr => ∃ (k : Nat) (a s : Bool) (acc : List UInt8), k ≤ n ∧ av = .bool a ∧ sv = .bool s ∧ i = .int .i64 k ∧ AmRel l w k a s acc v wr) (fun _ _ _ i _ => n - (intOf i).toNat)
  case atStart => exact ⟨0, false, false, [], Nat.zero_le _, rfl, rfl, rfl, HA.out⟩
  case round =>
    clear HA
    obtain ⟨k, a, s, acc, hk, rfl, rfl, rfl, HR⟩ := hrel
    have hbd := HR.bound
    have hlen := HS.out.1
    rw [hlen] at hbd
    clear hlen
    by_cases hlt : k < n
    · have hs := HS.out
      have hkl : k < l.length := by rw [hs.1]; exact hlt
      have hll : l.length = n := hs.1
      have HLL : Hid (l.length = n) := hll
      have hln1 : n ≤ l.length := by omega
      have hln2 : l.length ≤ n := by omega
      clear hll
      obtain ⟨b, o, hp, hcell⟩ := hs.2.2.2.2.2 (by omega)
      subst hp
      have hbB : b < w.heap.size := hs.2.2.2.2.1 _ rfl
      have hrd : wr.cell? ⟨b, o + k, none⟩ = some (.int .u8 (l[k].toNat : Int)) := (HR.2.1.cell (p := ⟨b, o + k, none⟩) hbB).trans (hcell k hkl)
      have hnext : (h1 : k + 1 < l.length) → wr.cell? ⟨b, o + (k + 1), none⟩ = some (.int .u8 (l[k + 1].toNat : Int)) := fun h1 => (HR.2.1.cell (p := ⟨b, o + (k + 1), none⟩) hbB).trans (hcell (k + 1) h1)
      cases a with
      | false =>
        clear hs hcell
        cases s with
        | false =>
          cases h10 : ((l[k].toNat : Int) == 10) with
          | true =>
            have HN : Hid (AmRel l w (k + 1) true false acc _ wr) := HR.lf hkl (byte_eq _ 10 (by omega) h10)
            clear HR
            go_wp2
            go_roundw
            case rel => exact ⟨k + 1, true, false, _, by omega, rfl, rfl, by go_num, HN.out⟩
            case measure => simp [intOf]; omega
          | false =>
            have H10 : Hid (l[k] ≠ 10) := byte_ne _ 10 h10
            cases h13 : ((l[k].toNat : Int) == 13) with
            | true =>
              have H13 : Hid (l[k] = 13) := byte_eq _ 13 (by omega) h13
              by_cases hend : k + 1 = n
              · have hend' : ((k : Int) + 1 == (n : Int)) = true := beq_iff_eq.2 (by omega)
                have HN : Hid (AmRel l w (k + 1) false false acc _ wr) := HR.cr hkl H13.out (Or.inl (by omega))
                clear hend
                clear hnext
                clear HR
                go_wp2
                go_roundw
                case rel => exact ⟨k + 1, false, false, _, by omega, rfl, rfl, by go_num, HN.out⟩
                case measure => simp [intOf]; omega
              · have hend' : ((k : Int) + 1 == (n : Int)) = false := beq_eq_false_iff_ne.2 (by omega)
                have hk1 : k + 1 < n := by omega
                have hk1l : k + 1 < l.length := by omega
                have hnx := hnext hk1l
                clear hend hnext
                cases hn10 : ((l[k + 1].toNat : Int) == 10) with
                | true =>
                  have HN : Hid (AmRel l w (k + 1) false false acc _ wr) := HR.cr hkl H13.out (Or.inr (by rw [List.getElem?_eq_getElem hk1l, byte_eq _ 10 (by omega) hn10]; rfl))
                  skip
                  clear HR
                  go_wp2
                  go_roundw
                  case rel => exact ⟨k + 1, false, false, _, by omega, rfl, rfl, by go_num, HN.out⟩
                  case measure => simp [intOf]; omega
                | false =>
                  have HX : Hid (¬ (l[k] = 13 ∧ (k + 1 = l.length ∨ l[k + 1]? = some 10))) := by
                    rintro ⟨_, e | e⟩
                    · omega
                    · rw [List.getElem?_eq_getElem hk1l] at e; exact byte_ne _ 10 hn10 (Option.some.inj e)
                  have hown := HR.1
                  have hWs := HR.2.1.size
                  go_wp2_with ((at_builtin; refine wpList_append_own _ rfl (.tmp 49) (.tmp 51) 22 rfl w.heap.size 5 i0 (.int .u8 0) 1 1 Tryd.underlying22 hi hz0 hz1 hz2 rfl (by decide) _ _ _ rfl (hown.alloc _) ⟨wr.heap.size, 0, none⟩ 1 1 [.int .u8 (l[k].toNat : Int)] rfl rfl ?c1 ?c2 ?c3 ?c4 ?c5 ?_))
                  case c1 =>
                    intro j u hj
                    match j, hj with
                    | 0, hj => simp at hj; subst hj; exact lit_cell _ _
                    | j + 1, hj => simp at hj
                  case c2 => intro u hu; simp at hu; subst hu; rfl
                  case c3 => unfold maxLen; omega
                  case c4 => omega
                  case c5 => exact Nat.le_trans hWs (lit_below _ _).size
                  intro v' w3 hown' hg' _
                  have HN : Hid (AmRel l w (k + 1) false false (acc ++ [l[k]]) v' w3) := HR.keep hkl H10.out HX.out (fun e => by cases e.1) hown' hg'
                  clear hown' hg' hown HR
                  go_wp2
                  go_roundw
                  case rel => exact ⟨k + 1, false, false, _, by omega, rfl, rfl, by go_num, HN.out⟩
                  case measure => simp [intOf]; omega
            | false =>
              have HX : Hid (¬ (l[k] = 13 ∧ (k + 1 = l.length ∨ l[k + 1]? = some 10))) := fun e => byte_ne _ 13 h13 e.1
              clear hnext
              have hown := HR.1
              have hWs := HR.2.1.size
              go_wp2_with ((at_builtin; refine wpList_append_own _ rfl (.tmp 49) (.tmp 51) 22 rfl w.heap.size 5 i0 (.int .u8 0) 1 1 Tryd.underlying22 hi hz0 hz1 hz2 rfl (by decide) _ _ _ rfl (hown.alloc _) ⟨wr.heap.size, 0, none⟩ 1 1 [.int .u8 (l[k].toNat : Int)] rfl rfl ?c1 ?c2 ?c3 ?c4 ?c5 ?_))
              case c1 =>
                intro j u hj
                match j, hj with
                | 0, hj => simp at hj; subst hj; exact lit_cell _ _
                | j + 1, hj => simp at hj
              case c2 => intro u hu; simp at hu; subst hu; rfl
              case c3 => unfold maxLen; omega
              case c4 => omega
              case c5 => exact Nat.le_trans hWs (lit_below _ _).size
              intro v' w3 hown' hg' _
              have HN : Hid (AmRel l w (k + 1) false false (acc ++ [l[k]]) v' w3) := HR.keep hkl H10.out HX.out (fun e => by cases e.1) hown' hg'
              clear hown' hg' hown HR
              go_wp2
              go_roundw
              case rel => exact ⟨k + 1, false, false, _, by omega, rfl, rfl, by go_num, HN.out⟩
              case measure => simp [intOf]; omega
        | true =>
          cases h10 : ((l[k].toNat : Int) == 10) with
          | true =>
            have HN : Hid (AmRel l w (k + 1) true false acc _ wr) := HR.lf hkl (byte_eq _ 10 (by omega) h10)
            clear HR
            go_wp2
            go_roundw
            case rel => exact ⟨k + 1, true, false, _, by omega, rfl, rfl, by go_num, HN.out⟩
            case measure => simp [intOf]; omega
          | false =>
            have H10 : Hid (l[k] ≠ 10) := byte_ne _ 10 h10
            cases h13 : ((l[k].toNat : Int) == 13) with
            | true =>
              have H13 : Hid (l[k] = 13) := byte_eq _ 13 (by omega) h13
              by_cases hend : k + 1 = n
              · have hend' : ((k : Int) + 1 == (n : Int)) = true := beq_iff_eq.2 (by omega)
                have HN : Hid (AmRel l w (k + 1) false true acc _ wr) := HR.cr hkl H13.out (Or.inl (by omega))
                clear hend
                clear hnext
                clear HR
                go_wp2
                go_roundw
                case rel => exact ⟨k + 1, false, true, _, by omega, rfl, rfl, by go_num, HN.out⟩
                case measure => simp [intOf]; omega
              · have hend' : ((k : Int) + 1 == (n : Int)) = false := beq_eq_false_iff_ne.2 (by omega)
                have hk1 : k + 1 < n := by omega
                have hk1l : k + 1 < l.length := by omega
                have hnx := hnext hk1l
                clear hend hnext
                cases hn10 : ((l[k + 1].toNat : Int) == 10) with
                | true =>
                  have HN : Hid (AmRel l w (k + 1) false true acc _ wr) := HR.cr hkl H13.out (Or.inr (by rw [List.getElem?_eq_getElem hk1l, byte_eq _ 10 (by omega) hn10]; rfl))
                  skip
                  clear HR
                  go_wp2
                  go_roundw
                  case rel => exact ⟨k + 1, false, true, _, by omega, rfl, rfl, by go_num, HN.out⟩
                  case measure => simp [intOf]; omega
                | false =>
                  have HX : Hid (¬ (l[k] = 13 ∧ (k + 1 = l.length ∨ l[k + 1]? = some 10))) := by
                    rintro ⟨_, e | e⟩
                    · omega
                    · rw [List.getElem?_eq_getElem hk1l] at e; exact byte_ne _ 10 hn10 (Option.some.inj e)
                  have hbl : Uf.isBlank l[k] = false := by rw [H13.out]; exact Uf.cr_noBlank
                  have hown := HR.1
                  have hWs := HR.2.1.size
                  have hcb := fun w => blank_any l[k] w
                  simp only [hbl] at hcb
                  have HBL : Hid (Uf.isBlank l[k] = false) := hbl
                  clear hbl
                  go_wp2_with (first | (go_at_call 18; refine (hcb _).mono ?_; rintro e wq ⟨rfl, hq⟩; have hq' := hq.symm; clear hq; subst hq') | (at_builtin; refine wpList_append_own _ rfl (.tmp 49) (.tmp 51) 22 rfl w.heap.size 5 i0 (.int .u8 0) 1 1 Tryd.underlying22 hi hz0 hz1 hz2 rfl (by decide) _ _ _ rfl (hown.alloc _) ⟨wr.heap.size, 0, none⟩ 1 1 [.int .u8 (l[k].toNat : Int)] rfl rfl ?c1 ?c2 ?c3 ?c4 ?c5 ?_))
                  case c1 =>
                    intro j u hj
                    match j, hj with
                    | 0, hj => simp at hj; subst hj; exact lit_cell _ _
                    | j + 1, hj => simp at hj
                  case c2 => intro u hu; simp at hu; subst hu; rfl
                  case c3 => unfold maxLen; omega
                  case c4 => omega
                  case c5 => exact Nat.le_trans hWs (lit_below _ _).size
                  intro v' w3 hown' hg' _
                  have HN : Hid (AmRel l w (k + 1) false false (acc ++ [l[k]]) v' w3) := HR.keep hkl H10.out HX.out (fun e => by rw [HBL.out] at e; cases e.2) hown' hg'
                  clear hown' hg' hown HR hcb
                  go_wp2
                  go_roundw
                  case rel => exact ⟨k + 1, false, false, _, by omega, rfl, rfl, by go_num, HN.out⟩
                  case measure => simp [intOf]; omega
            | false =>
              have HX : Hid (¬ (l[k] = 13 ∧ (k + 1 = l.length ∨ l[k + 1]? = some 10))) := fun e => byte_ne _ 13 h13 e.1
              clear hnext
              cases hbl : Uf.isBlank l[k] with
              | true =>
                have HN : Hid (AmRel l w (k + 1) false true acc _ wr) := HR.skip hkl hbl
                have hcb := fun w => blank_any l[k] w
                simp only [hbl] at hcb
                clear hbl HR
                go_wp2_with (go_at_call 18; refine (hcb _).mono ?_; rintro e wq ⟨rfl, rfl⟩)
                go_roundw
                case rel => exact ⟨k + 1, false, true, _, by omega, rfl, rfl, by go_num, HN.out⟩
                case measure => simp [intOf]; omega
              | false =>
                have hown := HR.1
                have hWs := HR.2.1.size
                have hcb := fun w => blank_any l[k] w
                simp only [hbl] at hcb
                have HBL : Hid (Uf.isBlank l[k] = false) := hbl
                clear hbl
                go_wp2_with (first | (go_at_call 18; refine (hcb _).mono ?_; rintro e wq ⟨rfl, hq⟩; have hq' := hq.symm; clear hq; subst hq') | (at_builtin; refine wpList_append_own _ rfl (.tmp 49) (.tmp 51) 22 rfl w.heap.size 5 i0 (.int .u8 0) 1 1 Tryd.underlying22 hi hz0 hz1 hz2 rfl (by decide) _ _ _ rfl (hown.alloc _) ⟨wr.heap.size, 0, none⟩ 1 1 [.int .u8 (l[k].toNat : Int)] rfl rfl ?c1 ?c2 ?c3 ?c4 ?c5 ?_))
                case c1 =>
                  intro j u hj
                  match j, hj with
                  | 0, hj => simp at hj; subst hj; exact lit_cell _ _
                  | j + 1, hj => simp at hj
                case c2 => intro u hu; simp at hu; subst hu; rfl
                case c3 => unfold maxLen; omega
                case c4 => omega
                case c5 => exact Nat.le_trans hWs (lit_below _ _).size
                intro v' w3 hown' hg' _
                have HN : Hid (AmRel l w (k + 1) false false (acc ++ [l[k]]) v' w3) := HR.keep hkl H10.out HX.out (fun e => by rw [HBL.out] at e; cases e.2) hown' hg'
                clear hown' hg' hown HR hcb
                go_wp2
                go_roundw
                case rel => exact ⟨k + 1, false, false, _, by omega, rfl, rfl, by go_num, HN.out⟩
                case measure => simp [intOf]; omega
      | true =>
        have hown := HR.1
        have hWs := HR.2.1.size
        go_wp2_with (at_builtin; refine wpList_append_own _ rfl (.tmp 22) (.tmp 23) 22 rfl w.heap.size 5 i0 (.int .u8 0) 1 1 Tryd.underlying22 hi hz0 hz1 hz2 rfl (by decide) _ _ _ rfl (hown.alloc _) ⟨wr.heap.size, 0, none⟩ 1 1 [.int .u8 32] rfl rfl ?c1 ?c2 ?c3 ?c4 ?c5 ?_)
        case c1 =>
          intro j u hj
          match j, hj with
          | 0, hj => simp at hj; subst hj; exact lit_cell _ _
          | j + 1, hj => simp at hj
        case c2 => intro u hu; simp at hu; subst hu; rfl
        case c3 => unfold maxLen; omega
        case c4 => omega
        case c5 => exact Nat.le_trans hWs (lit_below _ _).size
        intro v1 w2 hown1 hg1 _
        have HR1 : AmRel l w k false true (acc ++ [32]) v1 w2 := HR.space hkl hown1 hg1
        have hnext : (h1 : k + 1 < l.length) → w2.cell? ⟨b, o + (k + 1), none⟩ = some (.int .u8 (l[k + 1].toNat : Int)) := fun h1 => (HR1.2.1.cell (p := ⟨b, o + (k + 1), none⟩) hbB).trans (hcell (k + 1) h1)
        have hbd : (acc ++ [32]).length ≤ 2 * n := by have := HR1.bound; omega
        clear hown1 hg1 hown HR hs hcell hrd hWs
        generalize acc ++ [32] = acc1 at *
        cases h10 : ((l[k].toNat : Int) == 10) with
        | true =>
          have HN : Hid (AmRel l w (k + 1) true false acc1 _ w2) := HR1.lf hkl (byte_eq _ 10 (by omega) h10)
          clear HR1
          go_wp2
          go_roundw
          case rel => exact ⟨k + 1, true, false, _, by omega, rfl, rfl, by go_num, HN.out⟩
          case measure => simp [intOf]; omega
        | false =>
          have H10 : Hid (l[k] ≠ 10) := byte_ne _ 10 h10
          cases h13 : ((l[k].toNat : Int) == 13) with
          | true =>
            have H13 : Hid (l[k] = 13) := byte_eq _ 13 (by omega) h13
            by_cases hend : k + 1 = n
            · have hend' : ((k : Int) + 1 == (n : Int)) = true := beq_iff_eq.2 (by omega)
              have HN : Hid (AmRel l w (k + 1) false true acc1 _ w2) := HR1.cr hkl H13.out (Or.inl (by omega))
              clear hend
              clear hnext
              clear HR1
              go_wp2
              go_roundw
              case rel => exact ⟨k + 1, false, true, _, by omega, rfl, rfl, by go_num, HN.out⟩
              case measure => simp [intOf]; omega
            · have hend' : ((k : Int) + 1 == (n : Int)) = false := beq_eq_false_iff_ne.2 (by omega)
              have hk1 : k + 1 < n := by omega
              have hk1l : k + 1 < l.length := by omega
              have hnx := hnext hk1l
              clear hend hnext
              cases hn10 : ((l[k + 1].toNat : Int) == 10) with
              | true =>
                have HN : Hid (AmRel l w (k + 1) false true acc1 _ w2) := HR1.cr hkl H13.out (Or.inr (by rw [List.getElem?_eq_getElem hk1l, byte_eq _ 10 (by omega) hn10]; rfl))
                skip
                clear HR1
                go_wp2
                go_roundw
                case rel => exact ⟨k + 1, false, true, _, by omega, rfl, rfl, by go_num, HN.out⟩
                case measure => simp [intOf]; omega
              | false =>
                have HX : Hid (¬ (l[k] = 13 ∧ (k + 1 = l.length ∨ l[k + 1]? = some 10))) := by
                  rintro ⟨_, e | e⟩
                  · omega
                  · rw [List.getElem?_eq_getElem hk1l] at e; exact byte_ne _ 10 hn10 (Option.some.inj e)
                have hbl : Uf.isBlank l[k] = false := by rw [H13.out]; exact Uf.cr_noBlank
                have hown := HR1.1
                have hWs := HR1.2.1.size
                have hcb := fun w => blank_any l[k] w
                simp only [hbl] at hcb
                have HBL : Hid (Uf.isBlank l[k] = false) := hbl
                clear hbl
                go_wp2_with (first | (go_at_call 18; refine (hcb _).mono ?_; rintro e wq ⟨rfl, hq⟩; have hq' := hq.symm; clear hq; subst hq') | (at_builtin; refine wpList_append_own _ rfl (.tmp 49) (.tmp 51) 22 rfl w.heap.size 5 i0 (.int .u8 0) 1 1 Tryd.underlying22 hi hz0 hz1 hz2 rfl (by decide) _ _ _ rfl (hown.alloc _) ⟨w2.heap.size, 0, none⟩ 1 1 [.int .u8 (l[k].toNat : Int)] rfl rfl ?c1 ?c2 ?c3 ?c4 ?c5 ?_))
                case c1 =>
                  intro j u hj
                  match j, hj with
                  | 0, hj => simp at hj; subst hj; exact lit_cell _ _
                  | j + 1, hj => simp at hj
                case c2 => intro u hu; simp at hu; subst hu; rfl
                case c3 => unfold maxLen; omega
                case c4 => omega
                case c5 => exact Nat.le_trans hWs (lit_below _ _).size
                intro v' w3 hown' hg' _
                have HN : Hid (AmRel l w (k + 1) false false (acc1 ++ [l[k]]) v' w3) := HR1.keep hkl H10.out HX.out (fun e => by rw [HBL.out] at e; cases e.2) hown' hg'
                clear hown' hg' hown HR1 hcb
                go_wp2
                go_roundw
                case rel => exact ⟨k + 1, false, false, _, by omega, rfl, rfl, by go_num, HN.out⟩
                case measure => simp [intOf]; omega
          | false =>
            have HX : Hid (¬ (l[k] = 13 ∧ (k + 1 = l.length ∨ l[k + 1]? = some 10))) := fun e => byte_ne _ 13 h13 e.1
            clear hnext
            cases hbl : Uf.isBlank l[k] with
            | true =>
              have HN : Hid (AmRel l w (k + 1) false true acc1 _ w2) := HR1.skip hkl hbl
              have hcb := fun w => blank_any l[k] w
              simp only [hbl] at hcb
              clear hbl HR1
              go_wp2_with (go_at_call 18; refine (hcb _).mono ?_; rintro e wq ⟨rfl, rfl⟩)
              go_roundw
              case rel => exact ⟨k + 1, false, true, _, by omega, rfl, rfl, by go_num, HN.out⟩
              case measure => simp [intOf]; omega
            | false =>
              have hown := HR1.1
              have hWs := HR1.2.1.size
              have hcb := fun w => blank_any l[k] w
              simp only [hbl] at hcb
              have HBL : Hid (Uf.isBlank l[k] = false) := hbl
              clear hbl
              go_wp2_with (first | (go_at_call 18; refine (hcb _).mono ?_; rintro e wq ⟨rfl, hq⟩; have hq' := hq.symm; clear hq; subst hq') | (at_builtin; refine wpList_append_own _ rfl (.tmp 49) (.tmp 51) 22 rfl w.heap.size 5 i0 (.int .u8 0) 1 1 Tryd.underlying22 hi hz0 hz1 hz2 rfl (by decide) _ _ _ rfl (hown.alloc _) ⟨w2.heap.size, 0, none⟩ 1 1 [.int .u8 (l[k].toNat : Int)] rfl rfl ?c1 ?c2 ?c3 ?c4 ?c5 ?_))
              case c1 =>
                intro j u hj
                match j, hj with
                | 0, hj => simp at hj; subst hj; exact lit_cell _ _
                | j + 1, hj => simp at hj
              case c2 => intro u hu; simp at hu; subst hu; rfl
              case c3 => unfold maxLen; omega
              case c4 => omega
              case c5 => exact Nat.le_trans hWs (lit_below _ _).size
              intro v' w3 hown' hg' _
              have HN : Hid (AmRel l w (k + 1) false false (acc1 ++ [l[k]]) v' w3) := HR1.keep hkl H10.out HX.out (fun e => by rw [HBL.out] at e; cases e.2) hown' hg'
              clear hown' hg' hown HR1 hcb
              go_wp2
              go_roundw
              case rel => exact ⟨k + 1, false, false, _, by omega, rfl, rfl, by go_num, HN.out⟩
              case measure => simp [intOf]; omega
    · have hkn : k = n := by omega
      subst hkn
      have hll := HS.out.1
      have hacc : acc = Uf.auto false false l := by
        have h1 := HR.2.2
        rw [List.drop_of_length_le (by omega), Uf.auto_nil, List.append_nil] at h1
        exact h1
      have HE : Hid (Uf.unfold l = Lib.trimS acc Uf.blanks) := by show _ = _; rw [hacc]; rfl
      have hcv := own_conv HR.1
      have hbw := HR.2.1
      clear hacc hll HR
      go_wp2_with fail
      have ht := trimTab_any ⟨acc.toArray⟩ wr (by show acc.toArray.size ≤ _; simp; omega)
      have ea : (⟨acc.toArray⟩ : ByteArray).data.toList = acc := by simp
      rw [ea] at ht
      refine ht.mono ?_
      rintro e w5 ⟨rfl, rfl⟩
      clear ht ea hcv
      rw [← HE.out]
      clear HE
      go_wp2
      go_ret
      exact ⟨rfl, hbw⟩
end Go.Proofs.Qxb6602839aDoor
