/-
  Seat b6602839aD: the law FnInsertedFieldUnfoldsToItsValue: her walk.
-/
import Derived.Test.Qxb6602839aDoorSp3
import Derived.Test.Qxb6602839aDoorLawP
import Derived.Test.Qxb6602839aDoorTrimTab
import Derived.Test.Qxb6602839aDoorUnfold
namespace Go.Proofs.Qxb6602839aDoor
open Go.Shelf Go.RowKit

set_option maxHeartbeats 2000000 in
set_option maxRecDepth 50000 in
theorem bytes11_all (s nm v : ByteArray) (pb pr pi : Option Addr) (nb cb nr cr ni ci : Nat) (w : World) (h1 : s.size ≤ 9223372036854775807) (h2 : nb ≤ 9223372036854775807) (h3 : nr ≤ 9223372036854775807) (h4 : ni ≤ 9223372036854775807) (h5 : nm.size ≤ 9223372036854775807) (h6 : v.size ≤ 9223372036854775807) :
    Calls Tryd.prog 11 #[.string s, .slice pb nb cb, .slice pr nr cr, .slice pi ni ci, .string nm, .string v] w fun e w' => (∃ b, e = .returned (.bool b)) ∧ w' = w := by
  go_enter Tryd.func11, Tryd.ntmps11
  go_wp2
  all_goals
    go_ret
    exact ⟨⟨_, rfl⟩, rfl⟩

theorem Addr.add_zero' (a : Addr) : a.add 0 = a := by simp [Addr.add]
theorem cutA_zero (a : Addr) (c : Nat) : cutA a c 0 = a := by
  unfold cutA
  split
  · rfl
  · exact Addr.add_zero' a
theorem cutA_block (a : Addr) (c lo : Nat) : (cutA a c lo).block = a.block := by
  unfold cutA
  split
  · rfl
  · unfold Addr.add
    split <;> rfl
theorem Sl.cut {w : World} {B : Nat} {a : Addr} {n c : Nat} {l : List UInt8} (h : Sl w B (some a) n c l) (lo hi : Nat) (h1 : lo ≤ hi) (h2 : hi ≤ n) : Sl w B (some (cutA a c lo)) (hi - lo) (c - lo) ((l.take hi).drop lo) := by
  obtain ⟨e1, e2, e3, e4, e5, e6⟩ := h
  refine ⟨by rw [List.length_drop, List.length_take]; omega, by omega, by omega, (fun e => by cases e), fun x hx => ?_, fun hp => ?_⟩
  · obtain rfl := Option.some.inj hx
    rw [cutA_block]
    exact e5 a rfl
  · obtain ⟨b, o, hpp, hc⟩ := e6 (by omega)
    obtain rfl := Option.some.inj hpp
    refine ⟨b, o + lo, ?_, fun i hi' => ?_⟩
    · unfold cutA
      rw [if_neg (by omega)]
      simp only [Addr.add]
      split
      · rename_i h; subst h; rfl
      · rfl
    · rw [List.length_drop, List.length_take] at hi'
      rw [Nat.add_assoc, hc (lo + i) (by omega), List.getElem_drop, List.getElem_take]
theorem run_to22 (a : Addr) (n c : Nat) (hi : Int) (w : World) (h1 : 0 ≤ hi) (h2 : hi ≤ (c : Int)) :
    (Instr.slice 22 (.slice (some a) n c) none (some (.int .i64 hi)) none).run Tryd.prog w = .ok (.slice (some a) hi.toNat c) w := by
  have u := run_underlying (P := Tryd.prog) Tryd.underlying22
  have hb1 : ∀ W : World, (Instr.sliceBound (.int .i64 hi) c .sliceAcap).run Tryd.prog W = .ok hi.toNat W := fun W => run_sliceBound W .i64 hi c _ h1 h2
  simp [Instr.slice, u, Instr.sliceBounds, hb1, Tryd.sizeOf5, Result.andThen, Addr.add_zero']
theorem run_from22 (a : Addr) (n c : Nat) (lo : Int) (w : World) (h0 : 0 ≤ lo) (h1 : lo ≤ (n : Int)) :
    (Instr.slice 22 (.slice (some a) n c) (some (.int .i64 lo)) none none).run Tryd.prog w = .ok (.slice (some (cutA a c lo.toNat)) (n - lo.toNat) (c - lo.toNat)) w := by
  have u := run_underlying (P := Tryd.prog) Tryd.underlying22
  have hb2 : ∀ W : World, (Instr.sliceBound (.int .i64 lo) n .sliceB).run Tryd.prog W = .ok lo.toNat W := fun W => run_sliceBound W .i64 lo n _ h0 h1
  have hh : (Instr.slice 22 (.slice (some a) n c) (some (.int .i64 lo)) none none).run Tryd.prog w = .ok (.slice (if c = lo.toNat then some a else some (a.add lo.toNat)) (n - lo.toNat) (c - lo.toNat)) w := by
    simp [Instr.slice, u, Instr.sliceBounds, hb2, Tryd.sizeOf5, Result.andThen]
  rw [hh]
  unfold cutA
  split <;> rfl
theorem Arg.up {w w' : World} {p : Option Addr} {n : Nat} {l : List UInt8} (h : Arg w p n l) (hb : Below w.heap.size w w') : Arg w' p n l := by
  obtain ⟨h1, h2, h3⟩ := h
  refine ⟨h1, h2, fun hn => ?_⟩
  obtain ⟨b, o, hp, hc⟩ := h3 hn
  exact ⟨b, o, hp, fun i hi => below_cell hb (hc i hi)⟩
theorem ArgI.up {w w' : World} {p : Option Addr} {n : Nat} {l : List Int} (h : ArgI w p n l) (hb : Below w.heap.size w w') : ArgI w' p n l := by
  obtain ⟨h1, h2, h3⟩ := h
  refine ⟨h1, h2, fun hn => ?_⟩
  obtain ⟨b, o, hp, hc⟩ := h3 hn
  exact ⟨b, o, hp, fun i hi => below_cell hb (hc i hi)⟩

/-- The new field, as the law reads it. -/
theorem field_read {w : World} {B : Nat} {p2 : Option Addr} {c2 : Nat} {A nm vl le : List UInt8} (h : Sl w B p2 (A ++ fieldOf nm vl le).length c2 (A ++ fieldOf nm vl le)) :
    ∃ a2 bx ox, p2 = some a2 ∧ cutA a2 c2 A.length = ⟨bx, ox, none⟩ ∧ bx < B ∧ (A ++ fieldOf nm vl le).length ≤ c2 ∧ Sl w B (some ⟨bx, ox, none⟩) (fieldOf nm vl le).length (c2 - A.length) (fieldOf nm vl le) ∧
      w.cell? ⟨bx, ox + nm.length, none⟩ = some (.int .u8 58) ∧
      Sl w B (some ⟨bx, ox, none⟩) nm.length (c2 - A.length) nm ∧
      Sl w B (some (cutA ⟨bx, ox, none⟩ (c2 - A.length) (nm.length + 1))) ((fieldOf nm vl le).length - (nm.length + 1)) (c2 - A.length - (nm.length + 1)) (32 :: (vl ++ le)) := by
  have hFl : (fieldOf nm vl le).length = nm.length + 2 + vl.length + le.length := by
    unfold fieldOf
    rw [List.length_append, List.length_append, List.length_append]
    rfl
  have hl : (A ++ fieldOf nm vl le).length = A.length + (fieldOf nm vl le).length := List.length_append
  obtain ⟨b, o, rfl, -⟩ := h.2.2.2.2.2 (by omega)
  have hc := h.cut A.length (A ++ fieldOf nm vl le).length (by omega) (Nat.le_refl _)
  rw [List.take_length, List.drop_left, show (A ++ fieldOf nm vl le).length - A.length = (fieldOf nm vl le).length from by omega] at hc
  obtain ⟨bx, ox, hx, hcell⟩ := hc.2.2.2.2.2 (by omega)
  have hx' := Option.some.inj hx
  rw [hx'] at hc
  refine ⟨_, bx, ox, rfl, hx', hc.2.2.2.2.1 _ rfl, h.2.1, hc, ?_, ?_, ?_⟩
  · rw [hcell nm.length (by omega)]
    have e : (fieldOf nm vl le)[nm.length]'(by omega) = 58 := by
      have e1 : (fieldOf nm vl le)[nm.length]? = some 58 := by
        unfold fieldOf
        rw [List.append_assoc, List.append_assoc, List.getElem?_append_right (Nat.le_refl _), Nat.sub_self]
        rfl
      rw [List.getElem?_eq_getElem (by omega)] at e1
      exact Option.some.inj e1
    rw [e]
    rfl
  · have := hc.cut 0 nm.length (Nat.zero_le _) (by omega)
    rw [cutA_zero, Nat.sub_zero, Nat.sub_zero, List.drop_zero] at this
    have e : (fieldOf nm vl le).take nm.length = nm := by
      unfold fieldOf
      rw [List.append_assoc, List.append_assoc, List.take_left]
    rw [e] at this
    exact this
  · have := hc.cut (nm.length + 1) (fieldOf nm vl le).length (by omega) (Nat.le_refl _)
    rw [List.take_length] at this
    have e : (fieldOf nm vl le).drop (nm.length + 1) = 32 :: (vl ++ le) := by
      unfold fieldOf
      rw [List.append_assoc, List.append_assoc, List.drop_append, List.drop_of_length_le (by omega), show nm.length + 1 - nm.length = 1 from by omega]
      simp
    rw [e] at this
    exact this
end Go.Proofs.Qxb6602839aDoor
