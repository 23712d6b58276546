/-
  Seat b6602839aD: the walk of unfold.
-/
import Derived.Test.Qxb6602839aDoorBuf
namespace Go.Proofs.Qxb6602839aDoor
open Go.Shelf Go.RowKit

theorem lit_cell (w : World) (x : Int) : (w.alloc (.cells #[.int .u8 x] 5)).cell? ⟨w.heap.size, 0, none⟩ = some (.int .u8 x) := World.cell?_alloc_mark w #[.int .u8 x] 5 (0, 0) 0
theorem lit_below (w : World) (o : Obj) : Below w.heap.size w (w.alloc o) := (Below.refl _ _).alloc (Nat.le_refl _) _
/-- 'string(b)'. -/
theorem Sl.conv {w : World} {B : Nat} {p : Option Addr} {n c : Nat} {l : List UInt8} (h : Sl w B p n c l) : (convert 22 9 (.slice p n c)).run Tryd.prog w = .ok (.string ⟨l.toArray⟩) w := by
  by_cases hn : 0 < n
  · obtain ⟨b, o, rfl, hc⟩ := h.2.2.2.2.2 hn
    have := run_convert_bytes_back (P := Tryd.prog) w 22 9 5 ⟨b, o, none⟩ c l Tryd.underlying22 Tryd.underlying5 Tryd.underlying9 (fun j hj => by
      rw [← hc j hj]; simp only [Addr.add]; split <;> simp_all)
    rw [h.1] at this
    exact this
  · have h0 : n = 0 := by omega
    subst h0
    have hl : l = [] := List.eq_nil_of_length_eq_zero h.1
    subst hl
    cases p with
    | none =>
      rw [run_convert_bytes_string w 22 9 5 none 0 c Tryd.underlying22 Tryd.underlying5 Tryd.underlying9]
      simp [Conv.bytesToString]
      rfl
    | some a => exact run_convert_bytes_back (P := Tryd.prog) w 22 9 5 a c [] Tryd.underlying22 Tryd.underlying5 Tryd.underlying9 (fun j hj => absurd hj (by simp))
theorem new_block (w : World) (o : Obj) : (w.alloc o).heap[w.heap.size]? = some o := by
  show (w.heap.push o)[w.heap.size]? = _
  simp
theorem writeSpace_any (B b : Nat) (l : List UInt8) (w : World) (h : IsB B b l w) (hlen : l.length + 1 ≤ 140737488355328) (hBw : B ≤ w.heap.size) :
    Calls Tryd.prog 26 #[.pointer (some ⟨b, 0, none⟩), .int .u8 32] w fun e w' => e = .returned .nilIface ∧ IsB B b (l ++ [32]) w' ∧ Below B w w' := writeByte_any B b l 32 w h hlen hBw
def lenOf : Value → Nat | .slice _ n _ => n | _ => 0

set_option maxHeartbeats 1000000 in
theorem trimBlanks_any (l : List UInt8) (w : World) (hs : l.length ≤ 9223372036854775807) :
    Calls Tryd.prog 29 #[.string ⟨l.toArray⟩] w fun e w' => e = .returned (.string ⟨(Lib.trimS l Uf.blanks).toArray⟩) ∧ Below w.heap.size w w' := by
  have h := trimStr_any ⟨l.toArray⟩ w (by show l.toArray.size ≤ _; simp; exact hs)
  have e : (⟨l.toArray⟩ : ByteArray).data.toList = l := by simp
  rw [e] at h
  clear e
  generalize (Lib.trimS l Uf.blanks) = r at h ⊢
  go_enter Tryd.func29, Tryd.ntmps29
  go_wp2_with (go_at_call 45; refine h.mono ?_; rintro e w1 ⟨rfl, hb⟩)
  go_ret
  exact ⟨rfl, hb⟩

set_option maxHeartbeats 1000000 in
theorem unfold_one (m : Int) (p : Option Addr) (n c : Nat) (l : List UInt8) (w : World) (h : Sl w w.heap.size p n c l) (hn : n < 4294967281) (hm : w.cell? ⟨0, 0, none⟩ = some (.int .i64 m)) (hr : Uf.restOf l = []) :
    Calls Tryd.prog 17 #[.slice p n c] w fun e w' => e = .returned (.string ⟨(Uf.unfold l).toArray⟩) ∧ Below w.heap.size w w' := by
  rw [Uf.unfold_one l hr]
  have HR : Hid (Uf.restOf l = []) := hr
  clear hr
  go_enter Tryd.func17, Tryd.ntmps17
  go_wp2_with fail
  have hl0 := lit_below w (.cells #[.int .u8 10] 5)
  refine (cut_any m w.heap.size p n c w.heap.size l _ (h.world hl0) hn (below_cell hl0 hm) (lit_cell w 10)).mono ?_
  rintro e w1 ⟨⟨n1, p2, n2, c2, f, rfl, s1, s2⟩, hb1⟩
  have hn2 : n2 = 0 := by rw [← s2.1, HR.out]; rfl
  subst hn2
  have hbw : Below w.heap.size w w1 := below_up hl0 hb1
  have s1' := s1.world (hb1.mono hl0.size)
  clear s1 s2 h
  go_wp2_with fail
  have hl1 := lit_below w1 (.cells #[.int .u8 13] 5)
  refine (trimSuffix_any w.heap.size p n1 c w1.heap.size _ _ (s1'.world (hl1.mono hbw.size)) (lit_cell w1 13)).mono ?_
  rintro e w2 ⟨⟨n3, rfl, s3⟩, rfl⟩
  go_wp2_with fail
  refine (trim_any w.heap.size p n3 c _ _ s3).mono ?_
  rintro e w3 ⟨⟨p4, n4, c4, rfl, s4⟩, hb3⟩
  have hbz : Below w.heap.size w w3 := below_up hbw (below_up hl1 hb3)
  have hcv := (s4.world (hb3.mono (Nat.le_trans hbw.size hl1.size))).conv
  clear s3 s4 s1' hl1 hl0 hb1 hb3
  go_wp2
  go_ret
  exact ⟨rfl, hbz⟩

/-- What holds at each round's head of unfold's loop. -/
def UfRel (l : List UInt8) (w : World) (b : Nat) (p : Option Addr) (n c : Nat) (first : Bool) (r acc : List UInt8) (wr : World) : Prop :=
  Sl wr w.heap.size p n c r ∧ IsB w.heap.size b acc wr ∧ acc ++ Uf.auto (!first) false r = Uf.auto false false l ∧ Below w.heap.size w wr
theorem UfRel.bound {l : List UInt8} {w : World} {b : Nat} {p : Option Addr} {n c : Nat} {first : Bool} {r acc : List UInt8} {wr : World} (h : UfRel l w b p n c first r acc wr) : acc.length ≤ 2 * l.length := by
  have h1 := congrArg List.length h.2.2.1
  have h2 := Uf.auto_le l false false
  rw [List.length_append] at h1
  omega

set_option maxHeartbeats 2000000 in
theorem unfold_many (m : Int) (p : Option Addr) (n c : Nat) (l : List UInt8) (w : World) (h : Sl w w.heap.size p n c l) (hn : n < 4294967281) (hm : w.cell? ⟨0, 0, none⟩ = some (.int .i64 m)) (hr : Uf.restOf l ≠ []) :
    Calls Tryd.prog 17 #[.slice p n c] w fun e w' => e = .returned (.string ⟨(Uf.unfold l).toArray⟩) ∧ Below w.heap.size w w' := by
  have HR : Hid (Uf.restOf l ≠ []) := hr
  clear hr
  have hlen := h.1
  have HL : Hid (l.length = n) := hlen
  clear hlen
  go_enter Tryd.func17, Tryd.ntmps17
  go_wp2_with fail
  have hl0 := lit_below w (.cells #[.int .u8 10] 5)
  refine (cut_any m w.heap.size p n c w.heap.size l _ (h.world hl0) hn (below_cell hl0 hm) (lit_cell w 10)).mono ?_
  rintro e w1 ⟨⟨n1, p2, n2, c2, f, rfl, s1, s2⟩, hb1⟩
  have hn2 : 0 < n2 := by rw [← s2.1]; exact List.length_pos_iff.2 HR.out
  have hn2' : ((n2 : Int) == 0) = false := beq_eq_false_iff_ne.2 (by omega)
  have hbw : Below w.heap.size w w1 := below_up hl0 hb1
  clear s1 s2 hb1 hl0
  go_wp2_with fail
  have hl1 := lit_below w1 (.cells #[.pointer none, .slice none 0 0] 58)
  refine (grow_any w.heap.size n w1.heap.size _ hbw.size (new_block w1 _) (Nat.le_trans hbw.size hl1.size) (by omega)).mono ?_
  rintro e w2 ⟨rfl, hB, hb2⟩
  have hstart : UfRel l w w1.heap.size p n c true l [] w2 := ⟨h.world ((hbw.trans (hl1.mono hbw.size)).trans hb2), hB, rfl, (hbw.trans (hl1.mono hbw.size)).trans hb2⟩
  have hb1s : w.heap.size ≤ w1.heap.size := hbw.size
  clear hB hb2 hl1 hbw h
  go_wp2
  go_loopw [0, 7] (fun rv fv wr => ∃ (p' : Option Addr) (n' c' : Nat) (first : Bool) (r acc : List UInt8), rv = .slice p' n' c' ∧ fv = .bool first ∧ UfRel l w w1.heap.size p' n' c' first r acc wr ∧ n' ≤ n) (fun rv _ _ => lenOf rv)
  case atStart => exact ⟨p, n, c, true, l, [], rfl, rfl, hstart, Nat.le_refl _⟩
  case round =>
    clear hstart
    obtain ⟨p', n', c', first, r, acc, rfl, rfl, HRel, hn'⟩ := hrel
    have hbound := HRel.bound
    rw [HL.out] at hbound
    by_cases hpos : 0 < n'
    · go_wp2_with fail
      have hbw := HRel.2.2.2
      have hl0 := lit_below wr (.cells #[.int .u8 10] 5)
      have hmr := below_cell hbw hm
      refine (cut_any m w.heap.size p' n' c' wr.heap.size r _ (HRel.1.world (hl0.mono hbw.size)) (by omega) (below_cell hl0 hmr) (lit_cell wr 10)).mono ?_
      rintro e w3 ⟨⟨n1, p2, n2, c2, f, rfl, s1, s2⟩, hb1⟩
      have hb3 : Below wr.heap.size wr w3 := below_up hl0 hb1
      have s1' := s1.world (hb1.mono (Nat.le_trans hbw.size hl0.size))
      have s2' := s2.world (hb1.mono (Nat.le_trans hbw.size hl0.size))
      have hB3 := HRel.2.1.below hb3
      have hbw3 : Below w.heap.size w w3 := below_up hbw hb3
      have HRd : Hid (acc ++ ((if first then Uf.trimCR (Uf.lineOf r) else 32 :: Lib.trimLeftS (Uf.trimCR (Uf.lineOf r)) Uf.blanks) ++ Uf.auto true false (Uf.restOf r)) = Uf.auto false false l) := by
        have h1 := HRel.2.2.1
        rw [Uf.auto_round first r (List.length_pos_iff.1 (by rw [HRel.1.1]; exact hpos))] at h1
        exact h1
      have HLt : Hid (n2 < n') := by
        have h1 := Uf.rest_lt r (List.length_pos_iff.1 (by rw [HRel.1.1]; exact hpos))
        rw [s2.1, HRel.1.1] at h1
        exact h1
      have hn2n : n2 ≤ n := Nat.le_trans (Nat.le_of_lt HLt.out) hn'
      have hn1n : n1 ≤ n := by
        have h1 := Uf.line_le r
        rw [s1.1, HRel.1.1] at h1
        omega
      clear HRel hb1 s1 s2 hl0 hmr hb3 hbw
      go_wp2_with fail
      have hl4 := lit_below w3 (.cells #[.int .u8 13] 5)
      have hbw4 : Below w.heap.size w (w3.alloc (.cells #[.int .u8 13] 5)) := below_up hbw3 hl4
      refine (trimSuffix_any w.heap.size p' n1 c' w3.heap.size _ _ (s1'.world (hl4.mono hbw3.size)) (lit_cell w3 13)).mono ?_
      rintro e w4 ⟨⟨n3, rfl, s3⟩, hw4⟩
      have hw4' := hw4.symm
      clear hw4
      subst hw4'
      have hB4 := hB3.below hl4
      have s4' := s2'.world (hl4.mono hbw3.size)
      have hn3 : n3 ≤ n := by
        have h1 := Uf.trimCR_le (Uf.lineOf r)
        have h2 := s3.1
        have h3 := s1'.1
        omega
      clear hB3 s2' s1' hl4 hbw3
      generalize w3.alloc (.cells #[.int .u8 13] 5) = w4 at *
      have hB4s := hbw4.size
      cases first with
      | true =>
        go_wp2_with fail
        refine (write_any w.heap.size w1.heap.size acc p' n3 c' _ w4 hB4 s3 (by omega) hB4s).mono ?_
        rintro e w5 ⟨rfl, hB5, hb5⟩
        have HN : Hid (UfRel l w w1.heap.size p2 n2 c2 false (Uf.restOf r) (acc ++ Uf.trimCR (Uf.lineOf r)) w5) := ⟨s4'.world hb5, hB5, by have h1 := HRd.out; rw [← List.append_assoc] at h1; exact h1, hbw4.trans hb5⟩
        clear hB4 s3 s4' hB5 hb5 hbw4 HRd hn1n hn3 hB4s
        go_wp2
        go_roundw
        case rel => exact ⟨p2, n2, c2, false, Uf.restOf r, _, rfl, rfl, HN.out, hn2n⟩
        case measure => exact HLt.out
      | false =>
        go_wp2_with fail
        refine (writeSpace_any w.heap.size w1.heap.size acc w4 hB4 (by omega) hB4s).mono ?_
        rintro e w5 ⟨rfl, hB5, hb5⟩
        have s5 := s3.world hb5
        have s5' := s4'.world hb5
        have hbw5 := hbw4.trans hb5
        clear hB4 s3 s4' hb5 hbw4 hB4s
        go_wp2_with fail
        refine (trimLeft_any w.heap.size p' n3 c' _ w5 s5).mono ?_
        rintro e w6 ⟨⟨p6, n6, c6, rfl, s6⟩, hb6⟩
        have s7 := s6.world (hb6.mono hbw5.size)
        have s7' := s5'.world (hb6.mono hbw5.size)
        have hB6 := hB5.below hb6
        have hbw6 : Below w.heap.size w w6 := below_up hbw5 hb6
        have hn6 : n6 ≤ n := by
          have h1 := Uf.left_le (Uf.trimCR (Uf.lineOf r)) Uf.blanks
          rw [s6.1, s5.1] at h1
          omega
        clear s5 s5' hB5 hb6 s6 hbw5
        go_wp2_with fail
        refine (write_any w.heap.size w1.heap.size (acc ++ [32]) p6 n6 c6 _ w6 hB6 s7 (by rw [List.length_append, List.length_singleton]; omega) hbw6.size).mono ?_
        rintro e w7 ⟨rfl, hB7, hb7⟩
        have HN : Hid (UfRel l w w1.heap.size p2 n2 c2 false (Uf.restOf r) (acc ++ [32] ++ Lib.trimLeftS (Uf.trimCR (Uf.lineOf r)) Uf.blanks) w7) := ⟨s7'.world hb7, hB7, by have h1 := HRd.out; simpa using h1, hbw6.trans hb7⟩
        clear hB6 s7 s7' hB7 hb7 hbw6 HRd hn1n hn3 hn6
        go_wp2
        go_roundw
        case rel => exact ⟨p2, n2, c2, false, Uf.restOf r, _, rfl, rfl, HN.out, hn2n⟩
        case measure => exact HLt.out
    · have h0 : n' = 0 := by omega
      subst h0
      have hr0 : r = [] := List.eq_nil_of_length_eq_zero HRel.1.1
      have hacc : acc = Uf.auto false false l := by
        have h1 := HRel.2.2.1
        rw [hr0, Uf.auto_nil, List.append_nil] at h1
        exact h1
      have hbw := HRel.2.2.2
      have hB := HRel.2.1
      have HE : Hid (Uf.unfold l = Lib.trimS acc Uf.blanks) := by show _ = _; rw [hacc]; rfl
      clear hacc hr0 HRel
      go_wp2_with fail
      refine (string_any w.heap.size w1.heap.size acc wr hB hbw.size).mono ?_
      rintro e w3 ⟨rfl, hb3⟩
      go_wp2_with fail
      refine (trimBlanks_any acc w3 (by omega)).mono ?_
      rintro e w4 ⟨rfl, hb4⟩
      have hbz : Below w.heap.size w w4 := below_up (hbw.trans hb3) hb4
      rw [← HE.out]
      clear hb4 hb3 hbw hB HE
      go_wp2
      go_ret
      exact ⟨rfl, hbz⟩

theorem unfold_any (m : Int) (p : Option Addr) (n c : Nat) (l : List UInt8) (w : World) (h : Sl w w.heap.size p n c l) (hn : n < 4294967281) (hm : w.cell? ⟨0, 0, none⟩ = some (.int .i64 m)) :
    Calls Tryd.prog 17 #[.slice p n c] w fun e w' => e = .returned (.string ⟨(Uf.unfold l).toArray⟩) ∧ Below w.heap.size w w' := by
  by_cases hr : Uf.restOf l = []
  · exact unfold_one m p n c l w h hn hm hr
  · exact unfold_many m p n c l w h hn hm hr

set_option maxHeartbeats 1000000 in
theorem zzUnfold_any (m : Int) (p : Option Addr) (n c : Nat) (l : List UInt8) (w : World) (h : Sl w w.heap.size p n c l) (hn : n < 4294967281) (hm : w.cell? ⟨0, 0, none⟩ = some (.int .i64 m)) :
    Calls Tryd.prog 8 #[.slice p n c] w fun e w' => e = .returned (.string ⟨(Uf.unfold l).toArray⟩) ∧ Below w.heap.size w w' := by
  have hu := unfold_any m p n c l w h hn hm
  clear h hm
  go_enter Tryd.func8, Tryd.ntmps8
  go_wp2_with fail
  refine hu.mono ?_
  rintro e w1 ⟨rfl, hb⟩
  clear hu
  go_wp2
  go_ret
  exact ⟨rfl, hb⟩
end Go.Proofs.Qxb6602839aDoor
