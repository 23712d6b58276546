/-
  Seat b6603961aD: the walk of CanonicalNumber.
-/
import Derived.Test.Qxb6603961aDoorSn
import Derived.Test.Qxb6603961aDoorEx
import Derived.Test.Qxb6603961aDoorPln
import Derived.Deep.RegionWith
namespace Go.Proofs.Qxb6603961aDoor
open Go.Shelf Go.RowKit Nb

theorem big_val {x : List UInt8} (hx : allDig x = true) (h : ¬ (strip x).length ≤ 18) : 1000000000000000000 ≤ val 0 x := by
  rw [← strip_val]
  cases hs : strip x with
  | nil => rw [hs] at h; exact absurd (Nat.zero_le _) h
  | cons c r =>
    have hd := strip_dig x hx
    rw [hs] at hd
    have h1 := val_head c r ((allDig_cons _ _).1 hd).1 (strip_head x c r hs)
    rw [hs, List.length_cons] at h
    have h2 : 10 ^ 18 ≤ 10 ^ r.length := Nat.pow_le_pow_right (by decide) (by omega)
    exact Nat.le_trans (by decide : 1000000000000000000 ≤ 10 ^ 18) (Nat.le_trans h2 h1)
theorem expo_big {en : Bool} {x : List UInt8} {mm : Int} (h : 1000000000000000000 ≤ val 0 x) (h1 : -1048577 ≤ mm) (h2 : mm ≤ 1048577) : ¬ (-6 ≤ expo en x + mm ∧ expo en x + mm ≤ 20) := by
  unfold expo
  split <;> omega
theorem layout_sciT {n : Bool} {ds : List UInt8} {p : Int} (h : ¬ (-6 ≤ p ∧ p ≤ 20)) : layout n ds p = sciT n ds (Lib.itoa p) := by
  unfold layout
  rw [if_pos (by omega)]
theorem layout_plainT {n : Bool} {ds : List UInt8} {p : Int} (h : -6 ≤ p ∧ p ≤ 20) : layout n ds p = plainT n ds (p + 1) := by
  unfold layout
  rw [if_neg (by omega)]
/-- ONE WALK SERVES EVERY ORDER, at a kind of worlds of the prover's own. -/
theorem wp_region_quiet_cls {P : Program} (C : World → Prop) {id : Nat} {Q : Exit → Act → World → Prop} {a : Act} {w : World} {l : List Oper} (hm : P.follows .mixedOrders = true) (hB : Region.lexB .any l.toArray = true) (hC : C w.drew)
    (h : wpQuiet P l.toArray C (fun a' => ∀ w', C w' → Q .normal a' w') l a) : (Code.region id l.toArray true).wp P Q a w :=
  wp_region_quiet (C := C) hm hB hC (by simpa using h)
theorem drop_lead (l : List UInt8) : l.drop (lead l) = strip l := by
  unfold lead
  induction l with
  | nil => rfl
  | cons c t ih =>
    rw [strip_cons]
    split
    · have hle := strip_le t
      rw [List.length_cons, show t.length + 1 - (strip t).length = (t.length - (strip t).length) + 1 from by omega, List.drop_succ_cons]
      exact ih
    · rw [Nat.sub_self, List.drop_zero]
set_option maxHeartbeats 40000000 in
set_option maxRecDepth 50000 in
theorem canonical_any (s : ByteArray) (w : World) (ht : Tab w) (hs : (s.size : Int) ≤ 1048576) :
    Calls Tryd.prog 5 #[.string s] w fun e w' => e = .returned (canV (scan (bl s))) ∧ Below w.heap.size w w' := by
  have hscan := scanNumber_any s w hs
  obtain ⟨r, hr⟩ : ∃ r, scan (bl s) = r := ⟨_, rfl⟩
  rw [hr] at hscan ⊢
  have HOK : Hid (∀ P, r = some P → POk 1048576 P) := by
    intro P hP
    rw [hP] at hr
    have h := scan_ok hr
    obtain ⟨h1, h2, h3, h4, h5⟩ := h
    exact ⟨h1, h2, h3, h4, by rw [bl_len] at h5; omega⟩
  have HT : Hid (Tab w) := ht
  clear hr ht hs
  generalize hR : canV r = R
  have HR : Hid (canV r = R) := hR
  clear hR
  go_enter Tryd.func5, Tryd.ntmps5
  go_upto_region 2 with (go_at_call 7; refine hscan.mono ?_; rintro e w1 ⟨⟨n, A, F, en, X, ok, rfl, hok⟩, hb1⟩)
  clear hscan
  obtain ⟨wN, hwN⟩ : ∃ wN, wN = w1.alloc (numO n A F en X) := ⟨_, rfl⟩
  rw [← hwN]
  have hN : wN.heap[w1.heap.size]? = some (numO n A F en X) := by rw [hwN]; exact new_block w1 _
  have HBN : Hid (Below w.heap.size w wN) := by show Below w.heap.size w wN; rw [hwN]; exact below_up hb1 (lit_below w1 _)
  have hg : w1.heap.size < wN.heap.size := by rw [hwN]; simp
  have c0 : wN.cell? ⟨w1.heap.size, 0, none⟩ = some (.bool n) := by rw [Lib.cell_of_heap hN]; rfl
  have c1 : wN.cell? ⟨w1.heap.size, 1, none⟩ = some (.string A) := by rw [Lib.cell_of_heap hN]; rfl
  have c2 : wN.cell? ⟨w1.heap.size, 2, none⟩ = some (.string F) := by rw [Lib.cell_of_heap hN]; rfl
  have c3 : wN.cell? ⟨w1.heap.size, 3, none⟩ = some (.bool en) := by rw [Lib.cell_of_heap hN]; rfl
  have c4 : wN.cell? ⟨w1.heap.size, 4, none⟩ = some (.string X) := by rw [Lib.cell_of_heap hN]; rfl
  clear hN hwN hb1
  obtain ⟨g, hgg⟩ : ∃ g, g = w1.heap.size := ⟨_, rfl⟩
  rw [← hgg] at hg c0 c1 c2 c3 c4 ⊢
  clear hgg
  rcases hok with ⟨rfl, hP⟩ | ⟨rfl, hP⟩
  · obtain ⟨hda, ha0, hdf, hdx, hlen0⟩ := HOK.out _ hP
    have hlen : A.size + F.size + X.size ≤ 1048576 := hlen0
    have Hdx : Hid (allDig (bl X) = true) := hdx
    have hAs : (A.size : Int) ≤ 1048576 := by omega
    have hXs : (X.size : Int) ≤ 1048577 := by omega
    have hcat : ¬ 9223372036854775807 < A.size + F.size := by omega
    obtain ⟨ALL, hALL⟩ : ∃ ALL : ByteArray, A ++ F = ALL := ⟨_, rfl⟩
    have HALL : Hid (bl ALL = bl A ++ bl F) := by show bl ALL = bl A ++ bl F; rw [← hALL, bl_append]
    have hALs : (ALL.size : Int) ≤ 1048576 := by
      have e := congrArg List.length HALL.out
      rw [bl_len, List.length_append, bl_len, bl_len] at e
      omega
    have htl := fun W => trimLeft_any ALL W
    obtain ⟨TS, hTS⟩ : ∃ TS, ofl (strip (bl ALL)) = TS := ⟨_, rfl⟩
    rw [hTS] at htl
    have hTSs : TS.size ≤ ALL.size := by
      rw [← hTS]
      show (strip (bl ALL)).length ≤ ALL.size
      have := strip_le (bl ALL)
      rw [bl_len] at this
      exact this
    obtain ⟨ld, hld⟩ : ∃ ld : Nat, (ALL.size : Int) - (TS.size : Int) = (ld : Int) := ⟨ALL.size - TS.size, by omega⟩
    have hldl : ld ≤ ALL.size := by omega
    have HLD : Hid (lead (bl A ++ bl F) = ld) := by
      show lead (bl A ++ bl F) = ld
      rw [← HALL.out]
      unfold lead
      have e : TS.size = (strip (bl ALL)).length := by rw [← hTS]; rfl
      rw [bl_len, ← e]
      omega
    obtain ⟨D1, hD1⟩ : ∃ D1, ALL.extract ld ALL.size = D1 := ⟨_, rfl⟩
    have HD1 : Hid (bl D1 = strip (bl A ++ bl F)) := by
      show bl D1 = strip (bl A ++ bl F)
      rw [← hD1, bl_from, ← HLD.out, ← HALL.out, drop_lead]
    have hD1s : D1.size ≤ 9223372036854775807 := by
      have e := congrArg List.length (bl_from ALL ld)
      rw [hD1, bl_len, List.length_drop, bl_len] at e
      omega
    have htr := fun W => trimRight_any D1 W hD1s
    obtain ⟨DS, hDS⟩ : ∃ DS, ofl (rstrip (bl D1)) = DS := ⟨_, rfl⟩
    rw [hDS] at htr
    have HDS : Hid (rstrip (strip (bl A ++ bl F)) = bl DS) := by
      show rstrip (strip (bl A ++ bl F)) = bl DS
      rw [← HD1.out, ← hDS]
    have hDSs : (DS.size : Int) ≤ 1048576 := by
      have e1 : DS.size = (rstrip (bl D1)).length := by rw [← hDS]; rfl
      have e2 : (rstrip (bl D1)).length ≤ (bl D1).length := by
        unfold rstrip
        rw [List.length_reverse]
        have := strip_le (bl D1).reverse
        rw [List.length_reverse] at this
        exact this
      have e := congrArg List.length (bl_from ALL ld)
      rw [hD1, bl_len, List.length_drop, bl_len] at e
      rw [bl_len] at e2
      omega
    obtain ⟨mm, hmm⟩ : ∃ mm : Int, (A.size : Int) - (ld : Int) - 1 = mm := ⟨_, rfl⟩
    have HPO : Hid (powOf (bl A) (bl F) en (bl X) = expo en (bl X) + mm) := by
      show powOf (bl A) (bl F) en (bl X) = expo en (bl X) + mm
      unfold powOf
      rw [HLD.out, bl_len, ← hmm]
      omega
    have hmm1 : -1048577 ≤ mm := by omega
    have hmm2 : mm ≤ 1048577 := by omega
    clear hda ha0 hdf hdx hlen0 hlen HALL hTS hDS HD1 HLD HOK
    by_cases hds : bl DS = []
    · have e : DS = e0 := bytes_eq hds
      subst e
      have eR : R = .tuple #[.string ⟨#[48]⟩, .bool true] := by
        rw [← HR.out, hP]
        show Value.tuple #[.string (ofl (canon (n, bl A, bl F, en, bl X))), .bool true] = _
        unfold canon
        show Value.tuple #[.string (ofl (if rstrip (strip (bl A ++ bl F)) = [] then [48] else _)), .bool true] = _
        rw [if_pos (HDS.out.trans hds)]
      subst eR
      clear HR hP HDS hds HPO
      go_wp2_with (first | (go_at_call 8; refine (htl _).mono ?_; rintro e wp ⟨rfl, hwp⟩; have hwp := hwp.symm; subst hwp) | (go_at_call 9; refine (htr _).mono ?_; rintro e wp ⟨rfl, hwp⟩; have hwp := hwp.symm; subst hwp))
      go_ret2
      exact ⟨rfl, HBN.out⟩
    · have hne : DS.toList.isEmpty = false := by
        rw [ByteArray.toList_eq]
        cases hl : DS.data.toList with
        | nil => exact absurd hl hds
        | cons _ _ => rfl
      have hDS0 : 0 < DS.size := List.length_pos_iff.2 hds
      obtain ⟨pow, hpow⟩ : ∃ pow : Int, expo en (bl X) + mm = pow := ⟨_, rfl⟩
      obtain ⟨RS, hRS⟩ : ∃ RS : ByteArray, ofl (layout n (bl DS) pow) = RS := ⟨_, rfl⟩
      have eR : R = .tuple #[.string RS, .bool true] := by
        rw [← HR.out, hP]
        show Value.tuple #[.string (ofl (canon (n, bl A, bl F, en, bl X))), .bool true] = _
        rw [canon_some HDS.out hds HPO.out, hpow, hRS]
      subst eR
      have HPW : Hid (expo en (bl X) + mm = pow) := hpow
      have HRS : Hid (ofl (layout n (bl DS) pow) = RS) := hRS
      clear HR hP HDS hds HPO hpow hRS
      by_cases hsm : (strip (bl X)).length ≤ 18
      · have hse := fun W => smallExp_yes X en W Hdx.out hsm
        obtain ⟨ex, hex⟩ : ∃ ex : Int, expo en (bl X) = ex := ⟨_, rfl⟩
        rw [hex] at hse
        have hexb : -1000000000000000000 ≤ ex ∧ ex ≤ 1000000000000000000 := by
          rw [← hex]
          have h1 := val_lt _ (strip_dig _ Hdx.out)
          have h2 : 10 ^ (strip (bl X)).length ≤ 1000000000000000000 := Nat.le_trans (Nat.pow_le_pow_right (by decide) hsm : 10 ^ (strip (bl X)).length ≤ 10 ^ 18) (by decide)
          rw [strip_val] at h1
          unfold expo
          split <;> omega
        have hexb1 := hexb.1
        have hexb2 := hexb.2
        have hpe : mm + ex = pow := by have := HPW.out; omega
        clear hexb hex HPW hsm
        by_cases hr : -6 ≤ pow ∧ pow ≤ 20
        · have hpl := fun W => plain_any n DS (pow + 1) W (by omega) (by omega) (by omega)
          rw [show ofl (plainT n (bl DS) (pow + 1)) = RS from by rw [← HRS.out, layout_plainT hr]] at hpl
          have hr1 : ¬ pow < -6 := by omega
          have hr2 : ¬ pow > 20 := by omega
          clear hr
          go_wp2_with (first | (go_at_call 8; refine (htl _).mono ?_; rintro e wp ⟨rfl, hwp⟩; have hwp := hwp.symm; subst hwp) | (go_at_call 9; refine (htr _).mono ?_; rintro e wp ⟨rfl, hwp⟩; have hwp := hwp.symm; subst hwp) | (go_at_call 10; refine (hse _).mono ?_; rintro e wp ⟨rfl, hwp⟩; have hwp := hwp.symm; subst hwp) | (go_at_call 14; refine (hpl _).mono ?_; rintro e w9 ⟨rfl, hb9⟩))
          go_ret2
          exact ⟨rfl, below_up HBN.out hb9⟩
        · obtain ⟨EX, hEX⟩ : ∃ EX, ofl (Lib.itoa pow) = EX := ⟨_, rfl⟩
          have hfi := fun W (hb : Below wN.heap.size wN W) => formatInt_any pow W (by omega) (by omega) ((HT.out.below HBN.out).below hb)
          have hEs : (EX.size : Int) ≤ 3000000 := by
            rw [← hEX]
            show ((Lib.itoa pow).length : Int) ≤ 3000000
            have h1 : (Lib.decDigits pow.natAbs).length ≤ 20 := dec_len_pow (Nat.lt_of_le_of_lt (by omega : pow.natAbs ≤ 2000000000000000000) (by decide)) (by decide)
            rcases Int.lt_or_le pow 0 with h | h
            · rw [itoa_neg h, List.length_cons]; omega
            · rw [itoa_pos h]; omega
          have hsc := fun W => scientific_any n DS EX W hDS0 (by omega) hEs
          rw [show ofl (sciT n (bl DS) (bl EX)) = RS from by rw [← HRS.out, layout_sciT hr, ← hEX]] at hsc
          rw [hEX] at hfi
          have HHB : Hid (∀ W3 W4 : World, Below wN.heap.size wN W3 → Below W3.heap.size W3 W4 → Below wN.heap.size wN W4) := fun W3 W4 h3 h4 => h3.trans (h4.mono h3.size)
          have hro : pow < -6 ∨ pow > 20 := by omega
          clear hEX HRS
          rcases hro with hr1 | hr1
          · go_upto_region 16 with (first | (go_at_call 8; refine (htl _).mono ?_; rintro e wp ⟨rfl, hwp⟩; have hwp := hwp.symm; subst hwp) | (go_at_call 9; refine (htr _).mono ?_; rintro e wp ⟨rfl, hwp⟩; have hwp := hwp.symm; subst hwp) | (go_at_call 10; refine (hse _).mono ?_; rintro e wp ⟨rfl, hwp⟩; have hwp := hwp.symm; subst hwp))
            go_region_with (first
              | (go_at_call 13; refine (hfi _ ?_).mono ?_; (repeat (first | exact Below.refl _ _ | apply Below.drew | apply below_dN)); rintro e w3 ⟨rfl, hb3⟩; have k0 := (hb3.cell (p := ⟨g, 0, none⟩) hg).trans c0)
              | (go_at_call 11; refine (hsc _).mono ?_; rintro e w4 ⟨rfl, hb4⟩))
            all_goals (try go_wp2)
            all_goals go_ret2
            all_goals (first | exact ⟨rfl, below_up (below_up HBN.out.drew hb3) hb4⟩ | exact ⟨rfl, below_up (below_up (below_dN HBN.out _) hb3) hb4⟩ | exact ⟨rfl, below_up (below_up HBN.out hb3) hb4⟩)
          · have hr0 : ¬ pow < -6 := by omega
            go_upto_region 16 with (first | (go_at_call 8; refine (htl _).mono ?_; rintro e wp ⟨rfl, hwp⟩; have hwp := hwp.symm; subst hwp) | (go_at_call 9; refine (htr _).mono ?_; rintro e wp ⟨rfl, hwp⟩; have hwp := hwp.symm; subst hwp) | (go_at_call 10; refine (hse _).mono ?_; rintro e wp ⟨rfl, hwp⟩; have hwp := hwp.symm; subst hwp))
            go_region_with (first
              | (go_at_call 13; refine (hfi _ ?_).mono ?_; (repeat (first | exact Below.refl _ _ | apply Below.drew | apply below_dN)); rintro e w3 ⟨rfl, hb3⟩; have k0 := (hb3.cell (p := ⟨g, 0, none⟩) hg).trans c0)
              | (go_at_call 11; refine (hsc _).mono ?_; rintro e w4 ⟨rfl, hb4⟩))
            all_goals (try go_wp2)
            all_goals go_ret2
            all_goals (first | exact ⟨rfl, below_up (below_up HBN.out.drew hb3) hb4⟩ | exact ⟨rfl, below_up (below_up (below_dN HBN.out _) hb3) hb4⟩ | exact ⟨rfl, below_up (below_up HBN.out hb3) hb4⟩)
      · have hse := fun W => smallExp_no X en W hsm
        have hbv := big_val Hdx.out hsm
        have hr := expo_big (en := en) hbv hmm1 hmm2
        rw [HPW.out] at hr
        obtain ⟨EX, hEX⟩ : ∃ EX, ofl (Lib.itoa pow) = EX := ⟨_, rfl⟩
        have hat := fun W (hb : Below wN.heap.size wN W) => addTo_any X en mm W ((HT.out.below HBN.out).below hb) Hdx.out hXs hmm1 hmm2 (by omega)
        rw [HPW.out, hEX] at hat
        have hEs : (EX.size : Int) ≤ 3000000 := by
          rw [← hEX]
          show ((Lib.itoa pow).length : Int) ≤ 3000000
          have h1 := pow_size en (decide (mm < 0)) (bl X) mm Hdx.out (by omega)
          have h2 : sgn en (val 0 (bl X)) + sgn (decide (mm < 0)) mm.natAbs = pow := by
            rw [← HPW.out]
            unfold sgn expo
            by_cases h : mm < 0
            · rw [if_pos (decide_eq_true h)]; split <;> omega
            · rw [if_neg (c := decide (mm < 0) = true) (by rw [decide_eq_false h]; decide)]; split <;> omega
          rw [h2, bl_len] at h1
          rcases Int.lt_or_le pow 0 with h | h
          · rw [itoa_neg h, List.length_cons]; omega
          · rw [itoa_pos h]; omega
        have hsc := fun W => scientific_any n DS EX W hDS0 (by omega) hEs
        rw [show ofl (sciT n (bl DS) (bl EX)) = RS from by rw [← HRS.out, layout_sciT hr, ← hEX]] at hsc
        clear hEX HRS HPW hbv hsm hr HT
        have hcC : ∀ W, Below wN.heap.size wN W → W.cell? ⟨g, 0, none⟩ = some (.bool n) ∧ W.cell? ⟨g, 3, none⟩ = some (.bool en) ∧ W.cell? ⟨g, 4, none⟩ = some (.string X) := fun W hW => ⟨(hW.cell (p := ⟨g, 0, none⟩) hg).trans c0, (hW.cell (p := ⟨g, 3, none⟩) hg).trans c3, (hW.cell (p := ⟨g, 4, none⟩) hg).trans c4⟩
        have HCC : Hid (∀ W, Below wN.heap.size wN W → W.cell? ⟨g, 0, none⟩ = some (.bool n) ∧ W.cell? ⟨g, 3, none⟩ = some (.bool en) ∧ W.cell? ⟨g, 4, none⟩ = some (.string X)) := hcC
        clear hcC
        go_upto_region 13 with (first | (go_at_call 8; refine (htl _).mono ?_; rintro e wp ⟨rfl, hwp⟩; have hwp := hwp.symm; subst hwp) | (go_at_call 9; refine (htr _).mono ?_; rintro e wp ⟨rfl, hwp⟩; have hwp := hwp.symm; subst hwp) | (go_at_call 10; refine (hse _).mono ?_; rintro e wp ⟨rfl, hwp⟩; have hwp := hwp.symm; subst hwp))
        have HAT : Hid (∀ W, Below wN.heap.size wN W → Calls Tryd.prog 12 #[.string X, .bool en, .int .i64 mm] W fun e w' => e = .returned (.string EX) ∧ Below W.heap.size W w') := hat
        have HSC : Hid (∀ W, Calls Tryd.prog 11 #[.bool n, .string DS, .string EX] W fun e w' => e = .returned (.string RS) ∧ Below W.heap.size W w') := hsc
        have ewm : IntKind.i64.wrap mm = mm := by rw [IntKind.wrap_i64]; omega
        clear hat hsc htl htr hse
        refine wp_region_quiet_cls (fun W => Below wN.heap.size wN W) (by kernel_rfl) (by kernel_rfl) (Below.refl _ _).drew ?_
        refine wpQuiet_step (fun K hK => ?_)
        go_simp
        refine ⟨.pointer (some ⟨g, 0, none⟩), fun W hW => ?_, hK _ ?_⟩
        · first | rfl | (obtain ⟨k0, k3, k4⟩ := HCC.out W hW; go_simp)
        clear hK K
        refine wpQuiet_step (fun K hK => ?_)
        go_simp
        refine ⟨.bool n, fun W hW => ?_, hK _ ?_⟩
        · first | rfl | (obtain ⟨k0, k3, k4⟩ := HCC.out W hW; go_simp)
        clear hK K
        refine wpQuiet_step (fun K hK => ?_)
        go_simp
        refine ⟨.string DS, fun W hW => ?_, hK _ ?_⟩
        · first | rfl | (obtain ⟨k0, k3, k4⟩ := HCC.out W hW; go_simp)
        clear hK K
        refine wpQuiet_step (fun K hK => ?_)
        go_simp
        refine ⟨.pointer (some ⟨g, 4, none⟩), fun W hW => ?_, hK _ ?_⟩
        · first | rfl | (obtain ⟨k0, k3, k4⟩ := HCC.out W hW; go_simp)
        clear hK K
        refine wpQuiet_step (fun K hK => ?_)
        go_simp
        refine ⟨.string X, fun W hW => ?_, hK _ ?_⟩
        · first | rfl | (obtain ⟨k0, k3, k4⟩ := HCC.out W hW; go_simp)
        clear hK K
        refine wpQuiet_step (fun K hK => ?_)
        go_simp
        refine ⟨.pointer (some ⟨g, 3, none⟩), fun W hW => ?_, hK _ ?_⟩
        · first | rfl | (obtain ⟨k0, k3, k4⟩ := HCC.out W hW; go_simp)
        clear hK K
        refine wpQuiet_step (fun K hK => ?_)
        go_simp
        refine ⟨.bool en, fun W hW => ?_, hK _ ?_⟩
        · first | rfl | (obtain ⟨k0, k3, k4⟩ := HCC.out W hW; go_simp)
        clear hK K
        refine wpQuiet_step (fun K hK => ?_)
        go_simp
        refine ⟨.int .i64 ((A.size : Int) - (ld : Int)), fun W hW => ?_, hK _ ?_⟩
        · first | rfl | (obtain ⟨k0, k3, k4⟩ := HCC.out W hW; go_simp)
        clear hK K
        refine wpQuiet_step (fun K hK => ?_)
        go_simp
        refine ⟨.int .i64 mm, fun W hW => ?_, hK _ ?_⟩
        · first | rfl | (obtain ⟨k0, k3, k4⟩ := HCC.out W hW; go_simp)
        clear hK K
        refine wpQuiet_step (fun K hK => ?_)
        go_simp
        refine ⟨.string EX, fun W hW => ?_, hK _ ?_⟩
        · have hcl := (HAT.out W hW).mono (fun e w' (h : e = .returned (.string EX) ∧ Below W.heap.size W w') => (⟨h.1, hW.trans (h.2.mono hW.size)⟩ : e = .returned (.string EX) ∧ Below wN.heap.size wN w'))
          first | exact hcl | (go_simp; exact hcl)
        clear hK K
        refine wpQuiet_step (fun K hK => ?_)
        go_simp
        refine ⟨.string RS, fun W hW => ?_, hK _ ?_⟩
        · have hcl := (HSC.out W).mono (fun e w' (h : e = .returned (.string RS) ∧ Below W.heap.size W w') => (⟨h.1, hW.trans (h.2.mono hW.size)⟩ : e = .returned (.string RS) ∧ Below wN.heap.size wN w'))
          first | exact hcl | (go_simp; exact hcl)
        clear hK K
        refine wpQuiet_step (fun K hK => ?_)
        go_simp
        refine ⟨.string RS, fun W hW => ?_, hK _ ?_⟩
        · first | rfl | (obtain ⟨k0, k3, k4⟩ := HCC.out W hW; go_simp)
        clear hK K
        refine wpQuiet_step (fun K hK => ?_)
        go_simp
        refine ⟨.bool true, fun W hW => ?_, hK _ ?_⟩
        · first | rfl | (obtain ⟨k0, k3, k4⟩ := HCC.out W hW; go_simp)
        clear hK K
        refine wpQuiet_nil ?_
        intro W hW
        go_wp2
        go_ret2
        exact ⟨rfl, below_up HBN.out hW⟩
  · have eR : R = .tuple #[.string e0, .bool false] := by rw [← HR.out, hP]; rfl
    subst eR
    clear HR hP HOK
    go_wp2
    go_ret2
    exact ⟨rfl, HBN.out⟩
end Go.Proofs.Qxb6603961aDoor
