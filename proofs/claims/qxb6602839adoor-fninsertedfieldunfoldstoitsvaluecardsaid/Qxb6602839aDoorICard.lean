/-
  Seat b6602839aD: the row and the tied card of FnInsertedFieldUnfoldsToItsValue.
-/
import Derived.Test.Qxb6602839aDoorLawJ
import Derived.Test.Qxb6602839aDoorFrame
import Derived.Test.Qxb6602839aDoorTie
import Derived.Test.Qxb6602839aDoorCards
import Derived.SevenTiedAt
namespace Go.Proofs.Qxb6602839aDoor
open Go.ChangeShapes Go.WideShapes Go.ChangeAt Go.RowKit
open Go.ChangeMaps (open_string shut_string)

abbrev laidI : List (String × DataW Unit) := Rows.fnInsertedFieldUnfoldsToItsValueRow.laid

/-- A []int that came in. -/
theorem argI_of {H : Type} {enc : TypeId × Value → H} {W : World} {a0 : Option Addr} {len cap : Nat} {d0 : DataW H} {p : List MemPlace} (h0 : DataW.Trod enc Tryd.prog W 0 (fun _ => true) true 26 (.slice a0 len cap) d0 p) :
    ∃ l : List Int, ArgI W a0 len l ∧ len ≤ cap ∧ cap ≤ maxLen := by
  obtain ⟨fuel, hf⟩ := h0
  rcases open_ints Tryd.underlying26 Tryd.underlying3 (by kernel_rfl) hf with ⟨hcs, _⟩ | ⟨x, l, c, zs, hcs, _, hl, hm, hz, _, hcell, hwz⟩
  · simp [Value.cells] at hcs
    obtain ⟨rfl, rfl, rfl⟩ := hcs
    exact ⟨[], ⟨rfl, fun _ => rfl, fun h => absurd h (Nat.lt_irrefl 0)⟩, Nat.le_refl _, Nat.zero_le _⟩
  · simp [Value.cells] at hcs
    obtain ⟨rfl, rfl, rfl⟩ := hcs
    have hz' : zs.length = cap := by simpa using hz
    refine ⟨zs.take len, ⟨by rw [List.length_take]; omega, (fun e => by cases e), fun hp => ?_⟩, hl, hm⟩
    obtain ⟨b, o, sp⟩ := x
    have hsp : sp = none := by simpa [Addr.add] using World.cell?_spot (hcell 0 (by omega))
    subst hsp
    refine ⟨b, o, rfl, fun i hi => ?_⟩
    rw [List.length_take] at hi
    have hi' : i < zs.length := by omega
    have h1 := hcell i hi'
    rw [Go.WideShapes.add_plain] at h1
    rw [h1, List.getElem_take]
    simp [List.getD, hi']

set_option maxRecDepth 100000 in
theorem liftedI (os : Os) (started : os.Started) (H : Type) (enc : TypeId × Value → H) :
    ReturnsInHanded {} Tryd.checked os 5 .any (fun w args => (Rows.fnInsertedFieldUnfoldsToItsValueSpec.pre enc Tryd.prog Tryd.f5 [] false w args ∧ laidMetH Tryd.prog laidI w) ∧ sizedMet enc Tryd.prog Tryd.f5 (OpenSpec.ofChange Rows.fnInsertedFieldUnfoldsToItsValueSpec) false w args)
      (Rows.fnInsertedFieldUnfoldsToItsValueSpec.post enc Tryd.prog Tryd.f5 false true false false) := by
  refine handed_shaped (C := Tryd.checked) (X := fun w _ => laidMetH Tryd.prog laidI w) (fun _ _ _ hh h => h.of_heap hh) own started (by kernel_rfl) Tryd.func5
    (ChangeSpec.witness_shaped (enc := enc) (C := Tryd.checked) (os := os) (X := fun w _ => laidMetH Tryd.prog laidI w) false (World.laidAll Tryd.prog os laidI) #[.string ⟨#[]⟩, .slice none 0 0, .slice none 0 0, .slice none 0 0, .string ⟨#[]⟩, .string ⟨#[]⟩] 8 (World.laidAll_os _ _ _)
      (World.shaped_of_ZipB (by kernel_rfl) (by kernel_rfl)) (by kernel_rfl) (by kernel_rfl) (by kernel_rfl)
      (by rw [MakeChecks.laidMetH_plain _ _ _ (by kernel_rfl)]; exact laidMet_laidAll _ (by kernel_rfl) (by kernel_rfl))) ?_
  intro W base args ds gs before hval0 hW _ hsh
  have hval : ∀ (j : Nat) t v, Tryd.f5.params[j]? = some t → args[j]? = some v → Value.okWide Tryd.prog W .any base t v := hval0
  have hW' := hW
  obtain ⟨p, q, hA0, hV, rfl, _, _⟩ := hW
  have hA : DataW.TrodAll enc Tryd.prog W 0 (fun _ => true) true Tryd.f5.params.toList args.toList ds p := hA0
  rw [Tryd.params5] at hA hval
  obtain ⟨v0, vs0, d0, ds0, p0, q0, hargs, rfl, rfl, t0, r0⟩ := trodAll_cons hA
  obtain ⟨v1, vs1, d1, ds1, p1, q1, rfl, rfl, rfl, t1, r1⟩ := trodAll_cons r0
  obtain ⟨v2, vs2, d2, ds2, p2, q2, rfl, rfl, rfl, t2, r2⟩ := trodAll_cons r1
  obtain ⟨v3, vs3, d3, ds3, p3, q3, rfl, rfl, rfl, t3, r3⟩ := trodAll_cons r2
  obtain ⟨v4, vs4, d4, ds4, p4, q4, rfl, rfl, rfl, t4, r4⟩ := trodAll_cons r3
  obtain ⟨v5, vs5, d5, ds5, p5, q5, rfl, rfl, rfl, t5, r5⟩ := trodAll_cons r4
  obtain ⟨rfl, rfl, rfl⟩ := trodAll_nil r5
  obtain rfl : args = #[v0, v1, v2, v3, v4, v5] := by cases args; simp_all
  obtain ⟨rfl, rfl⟩ := trodVars_none hV
  obtain ⟨s0, rfl, rfl, rfl, hs0⟩ := open_string Tryd.underlying9 (hval 0 9 v0 rfl rfl) t0
  obtain ⟨s4, rfl, rfl, rfl, hs4⟩ := open_string Tryd.underlying9 (hval 4 9 v4 rfl rfl) t4
  obtain ⟨s5, rfl, rfl, rfl, hs5⟩ := open_string Tryd.underlying9 (hval 5 9 v5 rfl rfl) t5
  obtain ⟨a1, l1, c1, rfl⟩ := okWide_slice Tryd.underlying22 (hval 1 22 v1 rfl rfl)
  obtain ⟨a2, l2, c2, rfl⟩ := okWide_slice Tryd.underlying22 (hval 2 22 v2 rfl rfl)
  obtain ⟨a3, l3, c3, rfl⟩ := okWide_slice Tryd.underlying26 (hval 3 26 v3 rfl rfl)
  have lt1 : ∀ x ∈ p1, x.block < W.heap.size := by obtain ⟨m, hm⟩ := t1; exact DataW.trod_lt m _ _ _ hm
  have lt2 : ∀ x ∈ p2, x.block < W.heap.size := by obtain ⟨m, hm⟩ := t2; exact DataW.trod_lt m _ _ _ hm
  have lt3 : ∀ x ∈ p3, x.block < W.heap.size := by obtain ⟨m, hm⟩ := t3; exact DataW.trod_lt m _ _ _ hm
  obtain ⟨x1, ha1, hl1, hc1⟩ := arg_of t1
  obtain ⟨x2, ha2, hl2, hc2⟩ := arg_of t2
  obtain ⟨x3, ha3, hl3, hc3⟩ := argI_of t3
  obtain ⟨m, hm⟩ := maxLen_cell hsh
  unfold maxLen at hs0 hs4 hs5 hc1 hc2 hc3
  clear hA0 hval0
  refine (lawI_any m s0 s4 s5 a1 a2 a3 l1 c1 l2 c2 l3 c3 x1 x2 x3 W ha1 ha2 ha3 hm hs0 (Nat.le_trans hl1 hc1) (Nat.le_trans hl2 hc2) (Nat.le_trans hl3 hc3) hs4 hs5).mono fun e W' ⟨he, bel⟩ => ?_
  subst he
  exact ⟨_, rfl, _, _, _, [], _, [], hW', trodAll_mk1 (shut_bool Tryd.underlying4 _),
    trodAll_cons_mk (shut_string Tryd.underlying9 hs0) (trodAll_cons_mk (Below.trod laidOut (by kernel_rfl) (of_decide_eq_true (by kernel_rfl)) t1 bel lt1) (trodAll_cons_mk (Below.trod laidOut (by kernel_rfl) (of_decide_eq_true (by kernel_rfl)) t2 bel lt2)
      (trodAll_cons_mk (Below.trod laidOut (by kernel_rfl) (of_decide_eq_true (by kernel_rfl)) t3 bel lt3) (trodAll_cons_mk (shut_string Tryd.underlying9 hs4) (trodAll_cons_mk (shut_string Tryd.underlying9 hs5) trodAll_mk0))))), rfl, bel.frame _, fun h => by cases h⟩

theorem rowI : Rows.FnInsertedFieldUnfoldsToItsValueSaid :=
  OpenClaim.holds_of_wide 5 Tryd.f5 rfl rfl rfl rfl rfl rfl rfl ⟨rfl, rfl, rfl, rfl, rfl⟩ rfl rfl rfl rfl rfl (by kernel_rfl) Tryd.func5 (by kernel_rfl)
    (of_decide_eq_true (by kernel_rfl)) (by unfold Func.isWrapper; first | (rw [if_pos (by decide +kernel)]; kernel_rfl) | (rw [if_neg (by decide +kernel)]; exact ⟨rfl, rfl⟩))
    (fun os started H enc _ => liftedI os started H enc)

open Go in
theorem inserted_proved : Rows.FnInsertedFieldUnfoldsToItsValueCardSaid :=
  Claim7.holds_tied_plain_at .later [] Rows.fnInsertedFieldUnfoldsToItsValueCard.laidKinds true Rows.fnInsertedFieldUnfoldsToItsValueCard.stood.harness Rows.fnInsertedFieldUnfoldsToItsValueCard.stood.looks
    rowI (fun _ h => by cases h) (by kernel_rfl) (fun _ h => by cases h) fnInsertedFieldUnfoldsToItsValue_row_tie rfl ⟨rfl, rfl⟩ (by kernel_rfl) rfl
    (fun f fn hf hfn => by
      obtain rfl : f = 5 := Option.some.inj ((show Tryd.prog.funcNamed Rows.fnInsertedFieldUnfoldsToItsValueRow.func = some 5 by kernel_rfl).symm.trans hf) |>.symm
      obtain rfl : fn = Tryd.f5 := (Option.some.inj (Tryd.func5.symm.trans hfn)).symm
      exact ⟨by kernel_rfl, fun j t ht => by
        rw [Tryd.params5] at ht
        have hm : t ∈ [9, 22, 22, 26, 9, 9] := by simpa using Array.mem_of_getElem? ht
        have hall : ([9, 22, 22, 26, 9, 9].all fun u => !Tryd.prog.wantsStandIn u) = true := by kernel_rfl
        exact (show Tryd.prog.wantsStandIn t = false by simpa using List.all_eq_true.1 hall t hm)⟩)
    (by kernel_rfl)
end Go.Proofs.Qxb6602839aDoor
