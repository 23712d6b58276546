/-
  Seat b6602329aD: the walks of parsePositive and what it calls.
-/
import Derived.Test.Qxb6602329aDoorShelf
import Derived.Test.Qxb6602329aDoorPlain
import Derived.WalkKit
import Derived.BigCall
import Derived.Lib.AtoiErrMem
namespace Go.Proofs.Qxb6602329aDoor
open Go.Shelf Go.RowKit

theorem trim_any (s : ByteArray) (w : World) (hs : s.size ≤ 9223372036854775807) :
    Calls Tryd.prog 13 #[.string s, .string ⟨#[48, 49, 50, 51, 52, 53, 54, 55, 56, 57]⟩] w fun e w' => e = .returned (.string ⟨(Lib.trimS s.data.toList Pp.digitsB).toArray⟩) ∧ Below w.heap.size w w' :=
  Any.strings_Trim_laid Tryd.lays160 (by kernel_rfl) s ⟨#[48, 49, 50, 51, 52, 53, 54, 55, 56, 57]⟩ w hs (by decide) (ascii_of_all (by decide))

set_option maxHeartbeats 400000 in
theorem allDigits_any (s : ByteArray) (w : World) (hs : s.size ≤ 9223372036854775807) :
    Calls Tryd.prog 11 #[.string s] w fun e w' => e = .returned (.bool (Pp.allDig s.data.toList)) ∧ Below w.heap.size w w' := by
  have hcon := trim_any s w hs
  rw [← Pp.trim_nil_iff]
  generalize (Lib.trimS s.data.toList Pp.digitsB) = r at hcon ⊢
  go_enter Tryd.func11, Tryd.ntmps11
  go_wp2_with (go_at_call 13; refine hcon.mono ?_; rintro e w' ⟨rfl, hB⟩)
  go_ret
  cases r with
  | nil => exact ⟨rfl, hB⟩
  | cons c t => exact ⟨rfl, hB⟩

theorem below_cell {w w' : World} (hb : Below w.heap.size w w') {a : Addr} {v : Value} (hc : w.cell? a = some v) : w'.cell? a = some v := (hb.cell (World.block_lt_of_cell? w a hc)).trans hc
theorem below_up {w w' w'' : World} (h1 : Below w.heap.size w w') (h2 : Below w'.heap.size w' w'') : Below w.heap.size w w'' := h1.trans (h2.mono h1.size)

/-- ParseInt(s, 10, 32) where it gives a number. -/
theorem parse_ok (s : ByteArray) (v : Int) (w : World) (hs : s.size ≤ 281474976710656) (h : Lib.parseIntB 32 s.data.toList = .ok v) :
    Calls Tryd.prog 12 #[.string s, .int .i64 10, .int .i64 32] w fun e w' => e = .returned (.tuple #[.int .i64 v, .nilIface]) ∧ Below w.heap.size w w' := by
  refine (show Calls Tryd.prog 12 #[.string s, .int .i64 10, .int .i64 32] w fun e w' => e = .returned (.tuple #[.int .i64 v, .nilIface]) ∧ (w' = w ∨ ∃ t, w' = Lib.bytesWorld w 5 t) from Any.strconv_ParseInt_10_at32_ok Tryd.laysC174 s (by omega) v h w).mono ?_
  rintro e w' ⟨rfl, hw⟩
  refine ⟨rfl, ?_⟩
  rcases hw with rfl | ⟨t, rfl⟩
  · exact Below.refl _ _
  · exact Lib.bytesWorld_below _ _ _
/-- ParseInt(s, 10, 32) where it gives none. -/
theorem parse_err (s : ByteArray) (p0 p1 : Value) (w : World) (hs : s.size ≤ 281474976710656) (h : ∀ v, Lib.parseIntB 32 s.data.toList ≠ .ok v) (c0 : w.cell? ⟨0, 0, none⟩ = some (.iface 61 p0)) (c1 : w.cell? ⟨1, 0, none⟩ = some (.iface 61 p1)) :
    Calls Tryd.prog 12 #[.string s, .int .i64 10, .int .i64 32] w fun e w' => (∃ n N, e = .returned (.tuple #[.int .i64 n, .iface 47 (.pointer (some ⟨N, 0, none⟩))])) ∧ Below w.heap.size w w' := by
  cases hh : Lib.parseIntB 32 s.data.toList
  · exact absurd hh (h _)
  · refine Calls.mono (Any.strconv_ParseInt_10_at32_syntax Tryd.laysC174 s hs hh _ w c0 (Or.inr ⟨_, _, rfl⟩)) ?_
    rintro e w' ⟨N, he, -, -, hb⟩
    exact ⟨⟨_, N, he⟩, hb⟩
  · refine Calls.mono (Any.strconv_ParseInt_10_at32_range Tryd.laysC174 s hs hh _ w c1 (Or.inr ⟨_, _, rfl⟩)) ?_
    rintro e w' ⟨N, he, -, -, hb⟩
    exact ⟨⟨_, N, he⟩, hb⟩

set_option maxHeartbeats 400000 in
theorem positive_any (s : ByteArray) (p0 p1 : Value) (w : World) (hs : s.size ≤ 281474976710656) (c0 : w.cell? ⟨0, 0, none⟩ = some (.iface 61 p0)) (c1 : w.cell? ⟨1, 0, none⟩ = some (.iface 61 p1)) :
    Calls Tryd.prog 10 #[.string s] w fun e w' => e = .returned (.tuple #[.int .i64 (Pp.num s.data.toList), .string ⟨(Pp.why s.data.toList).toArray⟩]) ∧ Below w.heap.size w w' := by
  have hall := allDigits_any s w (by omega)
  cases hd : Pp.allDig s.data.toList with
  | false =>
    obtain ⟨e1, e2⟩ := Pp.why_not _ hd
    rw [e1, e2]
    rw [hd] at hall
    clear e1 e2 hd
    go_enter Tryd.func10, Tryd.ntmps10
    go_wp2_with (go_at_call 11; refine hall.mono ?_; rintro e w1 ⟨rfl, hb⟩)
    go_ret2
    exact ⟨rfl, hb⟩
  | true =>
    rw [hd] at hall
    by_cases hv : Pp.val 0 s.data.toList < 2147483648 ∧ s.data.toList ≠ []
    · have hp : Lib.parseIntB 32 s.data.toList = .ok (Pp.val 0 s.data.toList : Int) := by rw [Pp.parseIntB_dig _ hv.2 hd, if_pos hv.1]
      have hok := fun w => parse_ok s _ w hs hp
      by_cases h0 : Pp.val 0 s.data.toList = 0
      · obtain ⟨e1, e2⟩ := Pp.why_zero _ hv.2 hd h0
        rw [e1, e2]
        rw [h0] at hok
        clear e1 e2 hd hv hp h0
        go_enter Tryd.func10, Tryd.ntmps10
        go_wp2_with (first | (go_at_call 11; refine hall.mono ?_; rintro e w1 ⟨rfl, hb⟩) | (go_at_call 12; refine (hok _).mono ?_; rintro e w2 ⟨rfl, hb2⟩))
        go_ret2
        exact ⟨rfl, below_up hb hb2⟩
      · obtain ⟨e1, e2⟩ := Pp.why_ok _ hd (by omega) hv.1
        rw [e1, e2]
        have hv1 := hv.1
        clear e1 e2 hd hv hp
        generalize Pp.val 0 s.data.toList = v at *
        have h1 : 1 ≤ (v : Int) := by omega
        have h2 : (v : Int) ≤ 2147483647 := by omega
        clear h0 hv1
        go_enter Tryd.func10, Tryd.ntmps10
        go_wp2_with (first | (go_at_call 11; refine hall.mono ?_; rintro e w1 ⟨rfl, hb⟩) | (go_at_call 12; refine (hok _).mono ?_; rintro e w2 ⟨rfl, hb2⟩))
        go_ret2
        exact ⟨rfl, below_up hb hb2⟩
    · have hp : ∀ v, Lib.parseIntB 32 s.data.toList ≠ .ok v := by
        intro v
        by_cases hne : s.data.toList = []
        · rw [hne]; exact Pp.parseIntB_nil _ _
        · rw [Pp.parseIntB_dig _ hne hd, if_neg (fun h => hv ⟨h, hne⟩)]; simp
      have hq : Pp.num s.data.toList = 0 ∧ Pp.why s.data.toList = Pp.rangeB := by
        by_cases hne : s.data.toList = []
        · rw [hne]; exact Pp.why_nil
        · exact Pp.why_big _ hd (Nat.le_of_not_lt fun h => hv ⟨h, hne⟩)
      rw [hq.1, hq.2]
      have herr := fun w c0 c1 => parse_err s p0 p1 w hs hp c0 c1
      clear hq hp hv hd
      go_enter Tryd.func10, Tryd.ntmps10
      go_wp2_with fail
      refine hall.mono ?_
      rintro e w1 ⟨rfl, hb⟩
      have d0 := below_cell hb c0
      have d1 := below_cell hb c1
      go_wp2_with fail
      refine (herr _ d0 d1).mono ?_
      rintro e w2 ⟨⟨n, N, rfl⟩, hb2⟩
      go_wp2
      go_ret2
      exact ⟨rfl, below_up hb hb2⟩

set_option maxHeartbeats 400000 in
theorem zz_any (s : ByteArray) (p0 p1 : Value) (w : World) (hs : s.size ≤ 281474976710656) (c0 : w.cell? ⟨0, 0, none⟩ = some (.iface 61 p0)) (c1 : w.cell? ⟨1, 0, none⟩ = some (.iface 61 p1)) :
    Calls Tryd.prog 7 #[.string s] w fun e w' => e = .returned (.tuple #[.int .i64 (Pp.num s.data.toList), .string ⟨(Pp.why s.data.toList).toArray⟩]) ∧ Below w.heap.size w w' := by
  have h := positive_any s p0 p1 w hs c0 c1
  generalize Pp.num s.data.toList = n at h ⊢
  generalize Pp.why s.data.toList = y at h ⊢
  go_enter Tryd.func7, Tryd.ntmps7
  go_wp2_with (go_at_call 10; refine h.mono ?_; rintro e w1 ⟨rfl, hb⟩)
  go_ret2
  exact ⟨rfl, hb⟩
end Go.Proofs.Qxb6602329aDoor
