/-
  Seat b6603961aD: the walk of zzCanonicalModel.
-/
import Derived.Test.Qxb6603961aDoorModA
namespace Go.Proofs.Qxb6603961aDoor
open Go.RowKit Nb

set_option maxHeartbeats 40000000 in
set_option maxRecDepth 50000 in
theorem model_some (s : ByteArray) (w : World) (n en : Bool) (a f x : List UInt8) (hok : POk 1048576 (n, a, f, en, x))
    (haut : ∀ W : World, Calls Tryd.prog 15 #[.string s, .bool false] W fun e w' => e = .returned (.tuple #[.bool n, .string (ofl a), .string (ofl f), .bool en, .string (ofl x), .bool true]) ∧ Below W.heap.size W w') :
    Calls Tryd.prog 6 #[.string s] w fun e w' => e = .returned (.tuple #[.string (ofl (canon (n, a, f, en, x))), .bool true]) ∧ Below w.heap.size w w' := by
  obtain ⟨hda, ha0, hdf, hdx, hlen0⟩ := hok
  have hlen : a.length + f.length + x.length ≤ 1048576 := hlen0
  clear hlen0
  have Hda : Hid (allDig a = true) := hda
  have Hdf : Hid (allDig f = true) := hdf
  have Hdx : Hid (allDig x = true) := hdx
  have Hlen : Hid (a.length + f.length + x.length ≤ 1048576) := hlen
  obtain ⟨A, hA⟩ : ∃ A : ByteArray, A = ofl a := ⟨_, rfl⟩
  obtain ⟨F, hF⟩ : ∃ F : ByteArray, F = ofl f := ⟨_, rfl⟩
  obtain ⟨X, hX⟩ : ∃ X : ByteArray, X = ofl x := ⟨_, rfl⟩
  obtain ⟨ALL, hALL⟩ : ∃ ALL : ByteArray, A ++ F = ALL := ⟨_, rfl⟩
  have HALL : Hid (bl ALL = a ++ f) := by
    show bl ALL = a ++ f
    rw [← hALL, bl_append, hA, hF]
  rw [← hA, ← hF, ← hX] at haut
  have HAs : Hid (A.size = a.length) := by show A.size = a.length; rw [hA]; rfl
  have hAs2 : (A.size : Int) ≤ 1048576 := by have := HAs.out; omega
  have HXe : Hid (bl X = x) := by show bl X = x; rw [hX]
  have hALs : (ALL.size : Int) ≤ 1048576 := by
    have e := congrArg List.length HALL.out
    rw [bl_len, List.length_append] at e
    omega
  have hxs : X.size ≤ 9223372036854775807 := by
    have e := congrArg List.length HXe.out
    rw [bl_len] at e
    omega
  have hcat : ¬ 9223372036854775807 < A.size + F.size := by
    have e : F.size = f.length := by rw [hF]; rfl
    have := HAs.out
    omega
  clear hda ha0 hdf hdx hlen hA hF hX
  generalize hR : ofl (canon (n, a, f, en, x)) = R
  have HR : Hid (ofl (canon (n, a, f, en, x)) = R) := hR
  clear hR
  go_enter Tryd.func6, Tryd.ntmps6
  go_wp2_with (go_at_call 15; refine (haut _).mono ?_; rintro e w1 ⟨rfl, hb1⟩)
  clear haut hcat
  go_loop [11] (fun i => ∃ k : Nat, k ≤ ALL.size ∧ i = .int .i64 k ∧ Hid (strip (bl ALL) = strip ((bl ALL).drop k))) (fun i => ALL.size - (intOf i).toNat)
  case atStart => exact ⟨0, Nat.zero_le _, rfl, by show strip (bl ALL) = strip ((bl ALL).drop 0); rw [List.drop_zero]⟩
  case round =>
    obtain ⟨k, hk, rfl, hall⟩ := hrel
    by_cases hlt : k < ALL.size
    · cases c1 : ((ALL[k].toNat : Int) == 48) with
      | true =>
        have Ht : Hid (strip (bl ALL) = strip ((bl ALL).drop (k + 1))) := by
          show strip (bl ALL) = strip ((bl ALL).drop (k + 1))
          have e : ALL[k] = 48 := by
            have := beq_iff_eq.1 c1
            apply UInt8.toNat_inj.1
            show ALL[k].toNat = 48
            omega
          have h := hall.out
          rw [bl_drop ALL k hlt, strip_cons, if_pos e] at h
          exact h
        clear hall
        go_wp2
        go_round
        case rel => exact ⟨k + 1, by omega, by go_num, Ht⟩
        case measure => simp [intOf]; omega
      | false =>
        have hc48 : ALL[k] ≠ 48 := by
          intro e
          have := beq_eq_false_iff_ne.1 c1
          rw [e] at this
          exact this rfl
        have hne : ((k : Int) == (ALL.size : Int)) = false := beq_eq_false_iff_ne.2 (by omega)
        obtain ⟨hst, hld⟩ := lead_of hall.out (bl_drop ALL k hlt) hc48 (Nat.le_of_lt hlt)
        have HST : Hid (strip (a ++ f) = (bl ALL).drop k) := by show strip (a ++ f) = _; rw [← HALL.out]; exact hst
        have HLD : Hid (lead (a ++ f) = k) := by show lead (a ++ f) = k; rw [← HALL.out]; exact hld
        clear hst hld hall
        obtain ⟨q0, hq0⟩ : ∃ q0 : Nat, (ALL.size : Int) - 1 = (q0 : Int) := ⟨ALL.size - 1, by omega⟩
        have HQ0 : Hid (k ≤ q0 ∧ q0 < ALL.size ∧ rstrip (sl (bl ALL) k (q0 + 1)) = rstrip ((bl ALL).drop k)) := ⟨by omega, by omega, by rw [show q0 + 1 = (bl ALL).length from by rw [bl_len]; omega, sl_to_end]⟩
        have Hc48 : Hid (ALL[k] ≠ 48) := hc48
        clear hc48
        go_wp2
        go_loop [12] (fun v => ∃ q : Nat, k ≤ q ∧ q < ALL.size ∧ v = .int .i64 (q : Int) ∧ Hid (rstrip (sl (bl ALL) k (q + 1)) = rstrip ((bl ALL).drop k))) (fun v => (intOf v).toNat)
        case atStart => exact ⟨q0, HQ0.out.1, HQ0.out.2.1, rfl, HQ0.out.2.2⟩
        case round =>
          clear HQ0 hq0
          obtain ⟨q, hkq, hqs, rfl, HRS⟩ := hrel
          have hsn := sl_snoc (t := bl ALL) (a := k) (i := q) hkq (bl_drop ALL q hqs)
          have HSN : Hid (sl (bl ALL) k (q + 1) = sl (bl ALL) k q ++ [ALL[q]]) := hsn
          clear hsn
          cases c2 : ((ALL[q].toNat : Int) == 48) with
          | true =>
            have e48 : ALL[q] = 48 := by
              have := beq_iff_eq.1 c2
              apply UInt8.toNat_inj.1
              show ALL[q].toNat = 48
              omega
            have hqk : q ≠ k := by
              intro e
              subst e
              exact Hc48.out e48
            obtain ⟨q', hq'⟩ : ∃ q' : Nat, q = q' + 1 := ⟨q - 1, by omega⟩
            have HN : Hid (rstrip (sl (bl ALL) k (q' + 1)) = rstrip ((bl ALL).drop k)) := by
              show rstrip (sl (bl ALL) k (q' + 1)) = rstrip ((bl ALL).drop k)
              have h := HRS.out
              rw [HSN.out, e48, rstrip_zero, hq'] at h
              exact h
            have hqi : (q : Int) - 1 = (q' : Int) := by omega
            have hkq' : k ≤ q' := by omega
            clear HSN HRS e48 hq' hqk
            go_wp2
            go_round
            case rel => exact ⟨q', hkq', by omega, by go_num, HN⟩
            case measure => simp [intOf]; omega
          | false =>
            have hc2 : ALL[q] ≠ 48 := by
              intro e
              have := beq_eq_false_iff_ne.1 c2
              rw [e] at this
              exact this rfl
            obtain ⟨q1, hq1⟩ : ∃ q1 : Nat, (q : Int) + 1 = (q1 : Int) := ⟨q + 1, by omega⟩
            have hq1' : q1 = q + 1 := by omega
            obtain ⟨DS, hDS⟩ : ∃ DS : ByteArray, ALL.extract k q1 = DS := ⟨_, rfl⟩
            have HDS : Hid (rstrip (strip (a ++ f)) = bl DS) := by
              show rstrip (strip (a ++ f)) = bl DS
              rw [HST.out, ← hDS, bl_extract, ← HRS.out, hq1', HSN.out, rstrip_other _ _ hc2]
            have hds0 : 0 < DS.size := by
              have e := congrArg List.length HDS.out
              rw [HST.out, ← HRS.out, HSN.out, rstrip_other _ _ hc2, List.length_append, bl_len, List.length_singleton] at e
              omega
            have hds2 : (DS.size : Int) ≤ 1048576 := by
              have e : (bl DS).length ≤ (bl ALL).length := by
                rw [← hDS, bl_extract]
                unfold sl
                rw [List.length_take, List.length_drop]
                omega
              rw [bl_len, bl_len] at e
              omega
            obtain ⟨mm, hmm⟩ : ∃ mm : Int, (A.size : Int) - 1 - (k : Int) = mm := ⟨_, rfl⟩
            have hdec := fun W => decimal_any mm W (by omega) (by omega)
            have htz := fun W => trimZeros_any X W hxs
            have HPW : Hid (sgn (en && decide (0 < val 0 x)) (val 0 x) + sgn (decide (mm < 0)) mm.natAbs = powOf a f en x) := pow_sum a f en x mm (by rw [HLD.out, ← HAs.out]; exact hmm.symm)
            have HMM : Hid (-1048577 ≤ mm ∧ mm ≤ 1048577) := ⟨by omega, by omega⟩
            have hem : ofl (trimZ (bl X)) = ofl (Lib.decDigits (val 0 x)) := by
              rw [HXe.out, trimZ_dec x Hdx.out]
            rw [hem] at htz
            obtain ⟨M, hM⟩ : ∃ M : ByteArray, numS mm = M := ⟨_, rfl⟩
            obtain ⟨EM, hEM⟩ : ∃ EM : ByteArray, ofl (Lib.decDigits (val 0 x)) = EM := ⟨_, rfl⟩
            rw [hM] at hdec
            rw [hEM] at htz
            have HM : Hid (numS mm = M) := hM
            have HEM : Hid (ofl (Lib.decDigits (val 0 x)) = EM) := hEM
            clear hM hEM
            clear hem HSN HRS hc2 hq1' Hc48 HST HLD c1 hne
            have hq1k : k ≤ q1 ∧ q1 ≤ ALL.size := by omega
            go_upto_region 16 with (first | (go_at_call 16; refine (hdec _).mono ?_; rintro e w2 ⟨rfl, hb2⟩) | (go_at_call 17; refine (htz _).mono ?_; rintro e w3 ⟨rfl, hw3⟩; have hw3 := hw3.symm; subst hw3))
            clear htz hdec hq1 hq1k hDS hALL
            go_cut [17] (fun s17 wx => s17 = .bool (en && decide (0 < val 0 x)) ∧ wx = w2)
            case first =>
              as_aux_lemma =>
                cases en
                · go_wp2
                  go_meet
                  exact ⟨rfl, rfl⟩
                · rcases Nat.eq_zero_or_pos (val 0 x) with h0 | h0
                  · have e : EM = ⟨#[48]⟩ := by rw [← HEM.out, h0, dec_zero]
                    subst e
                    have H0 : Hid (decide (0 < val 0 x) = false) := decide_eq_false (by omega)
                    clear h0
                    go_wp2
                    go_meet
                    exact ⟨by rw [H0.out]; rfl, rfl⟩
                  · have e : (EM.toList == [48]) = false := by rw [← HEM.out]; exact dec_ne48 h0
                    have H0 : Hid (decide (0 < val 0 x) = true) := decide_eq_true h0
                    clear h0
                    go_wp2
                    go_meet
                    exact ⟨by rw [H0.out]; rfl, rfl⟩
            case rest =>
              obtain ⟨rfl, hw⟩ := hcut
              have hw := hw.symm
              subst hw
              have hsum := fun W => signedAdd_any (en && decide (0 < val 0 x)) (decide (mm < 0)) EM M (val 0 x) mm.natAbs W (by rw [← HEM.out]; exact rfl) (by rw [← HM.out]; exact rfl) (by
                rw [← HEM.out]
                show (Lib.decDigits (val 0 x)).length ≤ 1048577
                rw [← trimZ_dec x Hdx.out]
                have h1 := strip_le x
                have h2 := Hlen.out
                unfold trimZ
                split
                · decide
                · omega) (by
                rw [← HM.out]
                show (Lib.decDigits mm.natAbs).length ≤ 1048577
                have h1 : (Lib.decDigits mm.natAbs).length ≤ (Lib.decDigits 1048577).length := dec_len_le (by have := HMM.out; omega)
                have h2 : (Lib.decDigits 1048577).length ≤ 1048577 := by
                  have h := dec_len_le (m := 1048577) (n := 9999999) (by omega)
                  have e : (Lib.decDigits 9999999).length = 7 := by kernel_rfl
                  omega
                omega)
              rw [HPW.out] at hsum
              obtain ⟨pow, hPO⟩ : ∃ pow : Int, powOf a f en x = pow := ⟨_, rfl⟩
              rw [hPO] at hsum
              have HPO : Hid (powOf a f en x = pow) := hPO
              have HPZ0 : Hid ((numS pow).size ≤ 2000000) := by
                show (Lib.decDigits pow.natAbs).length ≤ 2000000
                rw [← hPO, ← HPW.out]
                have h1 := pow_size (en && decide (0 < val 0 x)) (decide (mm < 0)) x mm Hdx.out (by have := HMM.out; omega)
                have h2 := Hlen.out
                omega
              clear hPO HPW
              have HBW : Hid (Below w.heap.size w w2) := below_up hb1 hb2
              clear hb1 hb2 c2
              obtain ⟨PS, hPS⟩ : ∃ PS : ByteArray, numS pow = PS := ⟨_, rfl⟩
              rw [hPS] at hsum
              have HPS : Hid (numS pow = PS) := hPS
              clear hPS
              obtain ⟨PN, hPN⟩ : ∃ PN : Bool, decide (pow < 0) = PN := ⟨_, rfl⟩
              rw [hPN] at hsum
              have HPN : Hid (decide (pow < 0) = PN) := hPN
              clear hPN
              go_upto_if 96 with (go_at_call 18; refine (hsum _).mono ?_; rintro e w4 ⟨rfl, hb4⟩)
              have HB4 : Hid (Below w.heap.size w w4) := below_up HBW.out hb4
              clear hsum hb4 HBW
              go_cut [20] (fun s20 wx => ∃ (p : Option Addr) (z c : Nat), s20 = .slice p z c ∧ (z : Int) ≤ 1 ∧ Hid (OutB w p z c (sg n) wx))
              case first =>
                as_aux_lemma =>
                  cases n
                  · go_wp2
                    go_meet
                    exact ⟨none, 0, 0, rfl, by decide, OutB.start_at HB4.out⟩
                  · go_wp2_with (at_builtin; refine app_byte rfl _ _ rfl w w4 none 0 0 [] rfl (OutB.start_at HB4.out) _ 45 rfl rfl (by decide) ?_; intro p' n' c' w5 hn5 HO5)
                    go_meet
                    exact ⟨p', n', c', rfl, by omega, HO5⟩
              case rest =>
                obtain ⟨po, z, c, rfl, hz1, HO⟩ := hcut
                clear HB4
                obtain ⟨wA, hwA⟩ : ∃ wA, wA = wc := ⟨_, rfl⟩
                subst hwA
                have HPZ : Hid ((PS.size : Int) ≤ 2000000) := by show (PS.size : Int) ≤ 2000000; have h := HPZ0.out; rw [HPS.out] at h; omega
                clear HPZ0
                have HPd : Hid (allDig (bl PS) = true ∧ val 0 (bl PS) = pow.natAbs ∧ bl PS = Lib.decDigits pow.natAbs) := by
                  have e : bl PS = Lib.decDigits pow.natAbs := by rw [← HPS.out]; rfl
                  exact ⟨by rw [e]; exact dec_dig _, by rw [e, val_dec], e⟩
                go_upto_if 102 with fail
                go_cut [21, 22] (fun s21 s22 wx => ∃ pw : Int, s21 = .bool (decide (-6 ≤ pow ∧ pow ≤ 20)) ∧ s22 = .int .i64 pw ∧ Hid (-6 ≤ pow ∧ pow ≤ 20 → pw = pow) ∧ wx = wA)
                case first =>
                  as_aux_lemma =>
                    by_cases hp2 : (PS.size : Int) ≤ 2
                    · have hp100 : pow.natAbs < 100 := dec_two (by rw [← HPd.out.2.2]; show PS.size ≤ 2; omega)
                      have HP100 : Hid (pow.natAbs < 100) := hp100
                      clear hp100
                      go_wp2
                      go_loop [22, 23] (fun v22 v23 => ∃ k y : Nat, k ≤ PS.size ∧ v22 = .int .i64 (y : Int) ∧ v23 = .int .i64 (k : Int) ∧ Hid (y = val 0 ((bl PS).take k))) (fun _ v23 => PS.size - (intOf v23).toNat)
                      case atStart => exact ⟨0, 0, Nat.zero_le _, rfl, rfl, rfl⟩
                      case round =>
                        obtain ⟨j, y, hj, rfl, rfl, HY⟩ := hrel
                        by_cases hjl : j < PS.size
                        · obtain ⟨d, hd, ed, hxd⟩ := dig_int (List.all_eq_true.1 HPd.out.1 PS[j] (List.getElem_mem (l := bl PS) hjl))
                          have eu : IntKind.u8.wrap (48 + (d : Int) - 48) = (d : Int) := by rw [IntKind.wrap_u8]; omega
                          have hy : (y : Int) < 100 := by
                            have h1 : allDig ((bl PS).take j) = true := by
                              have h := HPd.out.1
                              rw [← List.take_append_drop j (bl PS)] at h
                              exact ((allDig_append _ _).1 h).1
                            have h2 := val_lt _ h1
                            have h3 : 10 ^ ((bl PS).take j).length ≤ 10 ^ 2 := Nat.pow_le_pow_right (by decide) (by rw [List.length_take, bl_len]; omega)
                            have h4 := HY.out
                            omega
                          have HY' : Hid (y * 10 + d = val 0 ((bl PS).take (j + 1))) := by
                            show y * 10 + d = val 0 ((bl PS).take (j + 1))
                            rw [List.take_add_one, List.getElem?_eq_getElem (by rw [bl_len]; exact hjl)]
                            show y * 10 + d = val 0 ((bl PS).take j ++ [PS[j]])
                            rw [val_snoc, ← HY.out, ed]
                          clear HY ed
                          go_wp2
                          go_round
                          case rel => exact ⟨j + 1, y * 10 + d, by omega, by go_num, by go_num, HY'⟩
                          case measure => simp [intOf]; omega
                        · have hyp : y = pow.natAbs := by
                            rw [HY.out, List.take_of_length_le (by rw [bl_len]; omega), HPd.out.2.1]
                          have hyi : (y : Int) < 100 := by have := HP100.out; omega
                          cases PN with
                          | true =>
                            have hneg : pow < 0 := of_decide_eq_true HPN.out
                            have e1 : -(y : Int) = pow := by omega
                            clear HY hyp
                            by_cases g1 : -6 ≤ pow
                            · have g2 : pow ≤ 20 := by omega
                              go_wp2
                              go_meet
                              exact ⟨pow, by rw [decide_eq_true ⟨g1, g2⟩], rfl, fun _ => rfl, rfl⟩
                            · go_wp2
                              go_meet
                              exact ⟨pow, by rw [decide_eq_false (by omega)], rfl, fun _ => rfl, rfl⟩
                          | false =>
                            have hneg : ¬ pow < 0 := of_decide_eq_false HPN.out
                            have e1 : (y : Int) = pow := by omega
                            clear HY hyp
                            have g1 : -6 ≤ pow := by omega
                            by_cases g2 : pow ≤ 20
                            · go_wp2
                              go_meet
                              exact ⟨pow, by rw [decide_eq_true ⟨g1, g2⟩], rfl, fun _ => rfl, rfl⟩
                            · go_wp2
                              go_meet
                              exact ⟨pow, by rw [decide_eq_false (by omega)], rfl, fun _ => rfl, rfl⟩
                    · have hp100 : 100 ≤ pow.natAbs := dec_more (by rw [← HPd.out.2.2]; show ¬ PS.size ≤ 2; omega)
                      have HF : Hid (decide (-6 ≤ pow ∧ pow ≤ 20) = false) := decide_eq_false (by omega)
                      clear hp100
                      go_wp2
                      go_meet
                      exact ⟨0, by rw [HF.out], rfl, fun h => absurd (decide_eq_true h) (by rw [HF.out]; decide), rfl⟩
                case rest =>
                  obtain ⟨pw, rfl, rfl, HPW2, hw⟩ := hcut
                  have hw := hw.symm
                  subst hw
                  have HRv : Hid (ofl (layout n (bl DS) pow) = R) := by
                    show ofl (layout n (bl DS) pow) = R
                    rw [← HR.out, canon_some HDS.out (fun e => by have := congrArg List.length e; rw [bl_len] at this; exact absurd this (by show ¬ DS.size = 0; omega)) HPO.out]
                  clear HR HDS HPO HALL Hda Hdf Hdx Hlen HAs HXe HMM HM HEM
                  by_cases hr : -6 ≤ pow ∧ pow ≤ 20
                  · as_aux_lemma =>
                      rw [decide_eq_true hr]
                      have hpw := HPW2.out hr
                      subst hpw
                      clear HPW2 HPd HPS HPN HPZ
                      have Hr : Hid (-6 ≤ pw ∧ pw ≤ 20) := hr
                      have hr1 := hr.1
                      have hr2 := hr.2
                      clear hr
                      obtain ⟨hi, hhi, hhi1, hhi2⟩ : ∃ hi : Int, (hi = if pw < 0 then 0 else pw) ∧ 0 ≤ hi ∧ hi ≤ 20 := ⟨_, rfl, by split <;> omega, by split <;> omega⟩
                      have HHI : Hid (hi = if pw < 0 then 0 else pw) := hhi
                      obtain ⟨lo, hlo, hlo1, hlo2⟩ : ∃ lo : Int, (lo = if pw - (bl DS).length + 1 > 0 then 0 else pw - (bl DS).length + 1) ∧ lo ≤ 0 ∧ -1048590 ≤ lo := ⟨_, rfl, by rw [bl_len]; split <;> omega, by rw [bl_len]; split <;> omega⟩
                      have HLO : Hid (lo = if pw - (bl DS).length + 1 > 0 then 0 else pw - (bl DS).length + 1) := hlo
                      clear hhi hlo
                      go_upto_if 160 with fail
                      go_cut [24] (fun s24 wx => s24 = .int .i64 hi ∧ wx = wA)
                      case first =>
                        as_aux_lemma =>
                          by_cases hg : pw < 0
                          · have e : hi = 0 := by rw [HHI.out, if_pos hg]
                            subst e
                            go_wp2
                            go_meet
                            exact ⟨rfl, rfl⟩
                          · have e : hi = pw := by rw [HHI.out, if_neg hg]
                            subst e
                            go_wp2
                            go_meet
                            exact ⟨rfl, rfl⟩
                      case rest =>
                        obtain ⟨rfl, hw⟩ := hcut
                        have hw := hw.symm
                        subst hw
                        go_upto_if 167 with fail
                        go_cut [25] (fun s25 wx => s25 = .int .i64 lo ∧ wx = wA)
                        case first =>
                          as_aux_lemma =>
                            by_cases hg : pw - (DS.size : Int) + 1 > 0
                            · have e : lo = 0 := by rw [HLO.out, bl_len, if_pos hg]
                              subst e
                              go_wp2
                              go_meet
                              exact ⟨rfl, rfl⟩
                            · have e : pw - (DS.size : Int) + 1 = lo := by rw [HLO.out, bl_len, if_neg hg]
                              go_wp2
                              go_meet
                              exact ⟨rfl, rfl⟩
                        case rest =>
                          obtain ⟨rfl, hw⟩ := hcut
                          have hw := hw.symm
                          subst hw
                          have HO0 : Hid (OutB w po z c (sg n ++ rows (bl DS) pw lo hi 0) wA) := by
                            show OutB w po z c (sg n ++ []) wA
                            rw [List.append_nil]
                            exact HO.out
                          clear HO
                          go_wp2
                          go_loopw [20, 26] (fun v20 v26 wr => ∃ (j : Nat) (q : Int) (p : Option Addr) (zz cc : Nat), v20 = .slice p zz cc ∧ v26 = .int .i64 q ∧ Hid (q = hi - (j : Int)) ∧ lo - 1 ≤ q ∧ q ≤ hi ∧ (zz : Int) + 2 * (q - lo) ≤ 3000000 ∧ Hid (0 < j → 0 < zz) ∧ Hid (OutB w p zz cc (sg n ++ rows (bl DS) pw lo hi j) wr)) (fun _ v26 _ => (intOf v26 - lo + 1).toNat)
                          case atStart => exact ⟨0, hi, po, z, c, rfl, rfl, by show hi = hi - ((0 : Nat) : Int); omega, by omega, by omega, by omega, fun h => absurd h (Nat.lt_irrefl 0), HO0.out⟩
                          case round =>
                            clear HO0
                            obtain ⟨j, q, p3, z3, c3, rfl, rfl, HQ, hq1, hq2, hz3, hj0, HO3⟩ := hrel
                            by_cases hql : lo ≤ q
                            · have hqg : q ≥ lo := hql
                              by_cases hk0 : 0 ≤ pw - q
                              · by_cases hk1 : pw - q < (DS.size : Int)
                                · obtain ⟨kn, hkn⟩ : ∃ kn : Nat, pw - q = (kn : Int) := ⟨(pw - q).toNat, by omega⟩
                                  have hknl : kn < DS.size := by omega
                                  clear hk0 hk1
                                  by_cases hd1 : q = 0
                                  · by_cases hd2 : lo < 0
                                    · as_aux_lemma =>
                                        have HE : Hid (at1 (bl DS) (pw - q) = DS[kn]) := (by show at1 (bl DS) (pw - q) = DS[kn]; rw [hkn]; exact at1_in DS kn hknl)
                                        have HN : Hid (sg n ++ rows (bl DS) pw lo hi j ++ [DS[kn]] ++ [46] = sg n ++ rows (bl DS) pw lo hi (j + 1)) := rows_nextD HE.out HQ.out ⟨hd1, hd2⟩
                                        have HQ1 : Hid (q - 1 = hi - ((j + 1 : Nat) : Int)) := by show q - 1 = hi - ((j + 1 : Nat) : Int); have := HQ.out; omega
                                        clear HE
                                        have hd1b : (q == 0) = true := beq_iff_eq.2 hd1
                                        clear hd1
                                        go_wp2_with (at_builtin; first | (refine app_byte rfl _ _ rfl w wr p3 z3 c3 (sg n ++ rows (bl DS) pw lo hi j) rfl HO3.out _ DS[kn] rfl rfl (by omega) ?_; intro p8 z8 c8 w8 hz8 HO8) | (refine app_byte rfl _ _ rfl w w8 p8 z8 c8 (sg n ++ rows (bl DS) pw lo hi j ++ [DS[kn]]) rfl HO8 _ 46 rfl rfl (by omega) ?_; intro p9 z9 c9 w9 hz9 HO9))
                                        go_roundw
                                        case rel => exact ⟨j + 1, q - 1, p9, z9, c9, rfl, by go_num, HQ1, by omega, by omega, by omega, fun _ => by omega, HN.out ▸ HO9⟩
                                        case measure => simp [intOf]; omega
                                    · as_aux_lemma =>
                                        have HE : Hid (at1 (bl DS) (pw - q) = DS[kn]) := (by show at1 (bl DS) (pw - q) = DS[kn]; rw [hkn]; exact at1_in DS kn hknl)
                                        have HN : Hid (sg n ++ rows (bl DS) pw lo hi j ++ [DS[kn]] = sg n ++ rows (bl DS) pw lo hi (j + 1)) := rows_nextN HE.out HQ.out (by omega)
                                        have HQ1 : Hid (q - 1 = hi - ((j + 1 : Nat) : Int)) := by show q - 1 = hi - ((j + 1 : Nat) : Int); have := HQ.out; omega
                                        clear HE
                                        have hd1b : (q == 0) = true := beq_iff_eq.2 hd1
                                        clear hd1
                                        go_wp2_with (at_builtin; (refine app_byte rfl _ _ rfl w wr p3 z3 c3 (sg n ++ rows (bl DS) pw lo hi j) rfl HO3.out _ DS[kn] rfl rfl (by omega) ?_; intro p8 z8 c8 w8 hz8 HO8))
                                        go_roundw
                                        case rel => exact ⟨j + 1, q - 1, p8, z8, c8, rfl, by go_num, HQ1, by omega, by omega, by omega, fun _ => by omega, HN.out ▸ HO8⟩
                                        case measure => simp [intOf]; omega
                                  · as_aux_lemma =>
                                      have HE : Hid (at1 (bl DS) (pw - q) = DS[kn]) := (by show at1 (bl DS) (pw - q) = DS[kn]; rw [hkn]; exact at1_in DS kn hknl)
                                      have HN : Hid (sg n ++ rows (bl DS) pw lo hi j ++ [DS[kn]] = sg n ++ rows (bl DS) pw lo hi (j + 1)) := rows_nextN HE.out HQ.out (by omega)
                                      have HQ1 : Hid (q - 1 = hi - ((j + 1 : Nat) : Int)) := by show q - 1 = hi - ((j + 1 : Nat) : Int); have := HQ.out; omega
                                      clear HE
                                      have hd1b : (q == 0) = false := beq_eq_false_iff_ne.2 hd1
                                      clear hd1
                                      go_wp2_with (at_builtin; (refine app_byte rfl _ _ rfl w wr p3 z3 c3 (sg n ++ rows (bl DS) pw lo hi j) rfl HO3.out _ DS[kn] rfl rfl (by omega) ?_; intro p8 z8 c8 w8 hz8 HO8))
                                      go_roundw
                                      case rel => exact ⟨j + 1, q - 1, p8, z8, c8, rfl, by go_num, HQ1, by omega, by omega, by omega, fun _ => by omega, HN.out ▸ HO8⟩
                                      case measure => simp [intOf]; omega
                                · have hk2 : decide (pw - q < (DS.size : Int)) = false := decide_eq_false hk1
                                  by_cases hd1 : q = 0
                                  · by_cases hd2 : lo < 0
                                    · as_aux_lemma =>
                                        have HE : Hid (at1 (bl DS) (pw - q) = 48) := at1_out DS _ (by omega)
                                        have HN : Hid (sg n ++ rows (bl DS) pw lo hi j ++ [48] ++ [46] = sg n ++ rows (bl DS) pw lo hi (j + 1)) := rows_nextD HE.out HQ.out ⟨hd1, hd2⟩
                                        have HQ1 : Hid (q - 1 = hi - ((j + 1 : Nat) : Int)) := by show q - 1 = hi - ((j + 1 : Nat) : Int); have := HQ.out; omega
                                        clear HE
                                        have hd1b : (q == 0) = true := beq_iff_eq.2 hd1
                                        clear hd1
                                        go_wp2_with (at_builtin; first | (refine app_byte rfl _ _ rfl w wr p3 z3 c3 (sg n ++ rows (bl DS) pw lo hi j) rfl HO3.out _ 48 rfl rfl (by omega) ?_; intro p8 z8 c8 w8 hz8 HO8) | (refine app_byte rfl _ _ rfl w w8 p8 z8 c8 (sg n ++ rows (bl DS) pw lo hi j ++ [48]) rfl HO8 _ 46 rfl rfl (by omega) ?_; intro p9 z9 c9 w9 hz9 HO9))
                                        go_roundw
                                        case rel => exact ⟨j + 1, q - 1, p9, z9, c9, rfl, by go_num, HQ1, by omega, by omega, by omega, fun _ => by omega, HN.out ▸ HO9⟩
                                        case measure => simp [intOf]; omega
                                    · as_aux_lemma =>
                                        have HE : Hid (at1 (bl DS) (pw - q) = 48) := at1_out DS _ (by omega)
                                        have HN : Hid (sg n ++ rows (bl DS) pw lo hi j ++ [48] = sg n ++ rows (bl DS) pw lo hi (j + 1)) := rows_nextN HE.out HQ.out (by omega)
                                        have HQ1 : Hid (q - 1 = hi - ((j + 1 : Nat) : Int)) := by show q - 1 = hi - ((j + 1 : Nat) : Int); have := HQ.out; omega
                                        clear HE
                                        have hd1b : (q == 0) = true := beq_iff_eq.2 hd1
                                        clear hd1
                                        go_wp2_with (at_builtin; (refine app_byte rfl _ _ rfl w wr p3 z3 c3 (sg n ++ rows (bl DS) pw lo hi j) rfl HO3.out _ 48 rfl rfl (by omega) ?_; intro p8 z8 c8 w8 hz8 HO8))
                                        go_roundw
                                        case rel => exact ⟨j + 1, q - 1, p8, z8, c8, rfl, by go_num, HQ1, by omega, by omega, by omega, fun _ => by omega, HN.out ▸ HO8⟩
                                        case measure => simp [intOf]; omega
                                  · as_aux_lemma =>
                                      have HE : Hid (at1 (bl DS) (pw - q) = 48) := at1_out DS _ (by omega)
                                      have HN : Hid (sg n ++ rows (bl DS) pw lo hi j ++ [48] = sg n ++ rows (bl DS) pw lo hi (j + 1)) := rows_nextN HE.out HQ.out (by omega)
                                      have HQ1 : Hid (q - 1 = hi - ((j + 1 : Nat) : Int)) := by show q - 1 = hi - ((j + 1 : Nat) : Int); have := HQ.out; omega
                                      clear HE
                                      have hd1b : (q == 0) = false := beq_eq_false_iff_ne.2 hd1
                                      clear hd1
                                      go_wp2_with (at_builtin; (refine app_byte rfl _ _ rfl w wr p3 z3 c3 (sg n ++ rows (bl DS) pw lo hi j) rfl HO3.out _ 48 rfl rfl (by omega) ?_; intro p8 z8 c8 w8 hz8 HO8))
                                      go_roundw
                                      case rel => exact ⟨j + 1, q - 1, p8, z8, c8, rfl, by go_num, HQ1, by omega, by omega, by omega, fun _ => by omega, HN.out ▸ HO8⟩
                                      case measure => simp [intOf]; omega
                              · have hk2 : decide (0 ≤ pw - q) = false := decide_eq_false hk0
                                by_cases hd1 : q = 0
                                · by_cases hd2 : lo < 0
                                  · as_aux_lemma =>
                                      have HE : Hid (at1 (bl DS) (pw - q) = 48) := at1_out DS _ (by omega)
                                      have HN : Hid (sg n ++ rows (bl DS) pw lo hi j ++ [48] ++ [46] = sg n ++ rows (bl DS) pw lo hi (j + 1)) := rows_nextD HE.out HQ.out ⟨hd1, hd2⟩
                                      have HQ1 : Hid (q - 1 = hi - ((j + 1 : Nat) : Int)) := by show q - 1 = hi - ((j + 1 : Nat) : Int); have := HQ.out; omega
                                      clear HE
                                      have hd1b : (q == 0) = true := beq_iff_eq.2 hd1
                                      clear hd1
                                      go_wp2_with (at_builtin; first | (refine app_byte rfl _ _ rfl w wr p3 z3 c3 (sg n ++ rows (bl DS) pw lo hi j) rfl HO3.out _ 48 rfl rfl (by omega) ?_; intro p8 z8 c8 w8 hz8 HO8) | (refine app_byte rfl _ _ rfl w w8 p8 z8 c8 (sg n ++ rows (bl DS) pw lo hi j ++ [48]) rfl HO8 _ 46 rfl rfl (by omega) ?_; intro p9 z9 c9 w9 hz9 HO9))
                                      go_roundw
                                      case rel => exact ⟨j + 1, q - 1, p9, z9, c9, rfl, by go_num, HQ1, by omega, by omega, by omega, fun _ => by omega, HN.out ▸ HO9⟩
                                      case measure => simp [intOf]; omega
                                  · as_aux_lemma =>
                                      have HE : Hid (at1 (bl DS) (pw - q) = 48) := at1_out DS _ (by omega)
                                      have HN : Hid (sg n ++ rows (bl DS) pw lo hi j ++ [48] = sg n ++ rows (bl DS) pw lo hi (j + 1)) := rows_nextN HE.out HQ.out (by omega)
                                      have HQ1 : Hid (q - 1 = hi - ((j + 1 : Nat) : Int)) := by show q - 1 = hi - ((j + 1 : Nat) : Int); have := HQ.out; omega
                                      clear HE
                                      have hd1b : (q == 0) = true := beq_iff_eq.2 hd1
                                      clear hd1
                                      go_wp2_with (at_builtin; (refine app_byte rfl _ _ rfl w wr p3 z3 c3 (sg n ++ rows (bl DS) pw lo hi j) rfl HO3.out _ 48 rfl rfl (by omega) ?_; intro p8 z8 c8 w8 hz8 HO8))
                                      go_roundw
                                      case rel => exact ⟨j + 1, q - 1, p8, z8, c8, rfl, by go_num, HQ1, by omega, by omega, by omega, fun _ => by omega, HN.out ▸ HO8⟩
                                      case measure => simp [intOf]; omega
                                · as_aux_lemma =>
                                    have HE : Hid (at1 (bl DS) (pw - q) = 48) := at1_out DS _ (by omega)
                                    have HN : Hid (sg n ++ rows (bl DS) pw lo hi j ++ [48] = sg n ++ rows (bl DS) pw lo hi (j + 1)) := rows_nextN HE.out HQ.out (by omega)
                                    have HQ1 : Hid (q - 1 = hi - ((j + 1 : Nat) : Int)) := by show q - 1 = hi - ((j + 1 : Nat) : Int); have := HQ.out; omega
                                    clear HE
                                    have hd1b : (q == 0) = false := beq_eq_false_iff_ne.2 hd1
                                    clear hd1
                                    go_wp2_with (at_builtin; (refine app_byte rfl _ _ rfl w wr p3 z3 c3 (sg n ++ rows (bl DS) pw lo hi j) rfl HO3.out _ 48 rfl rfl (by omega) ?_; intro p8 z8 c8 w8 hz8 HO8))
                                    go_roundw
                                    case rel => exact ⟨j + 1, q - 1, p8, z8, c8, rfl, by go_num, HQ1, by omega, by omega, by omega, fun _ => by omega, HN.out ▸ HO8⟩
                                    case measure => simp [intOf]; omega
                            · have HT : Hid (sg n ++ rows (bl DS) pw lo hi j = layout n (bl DS) pw) := by
                                show sg n ++ rows (bl DS) pw lo hi j = layout n (bl DS) pw
                                rw [layout_plain Hr.out, ← rows_law (bl DS) (fun e => by have := congrArg List.length e; rw [bl_len] at this; exact absurd this (by show ¬ DS.size = 0; omega)) pw hi lo HHI.out HLO.out]
                                congr 2
                                have := HQ.out
                                omega
                              have hcv := HO3.out.conv (hj0.out (by have := HQ.out; omega))
                              rw [HT.out, HRv.out] at hcv
                              have HB9 : Hid (Below w.heap.size w wr) := HO3.out.2.2
                              clear HO3 HT HHI HLO HRv hj0 HQ Hr
                              go_wp2
                              go_ret2
                              exact ⟨rfl, HB9.out⟩
                  · as_aux_lemma =>
                      rw [decide_eq_false hr]
                      have Hr : Hid (¬ (-6 ≤ pow ∧ pow ≤ 20)) := hr
                      clear HPW2 hr
                      go_upto_if 135 with (at_builtin; refine app_byte rfl _ _ rfl w wA po z c (sg n) rfl HO.out _ DS[0] rfl rfl (by omega) ?_; intro p6 z6 c6 w6 hz6 HO6)
                      clear HO
                      have HO7 : Hid (OutB w p6 z6 c6 (sg n ++ [DS[0]]) w6) := HO6
                      have hz7 : (z6 : Int) ≤ 2 := by omega
                      clear HO6 hz6 hz1
                      go_cut [20] (fun s20 wx => ∃ (p : Option Addr) (z c : Nat), s20 = .slice p z c ∧ (z : Int) ≤ 2000000 ∧ Hid (OutB w p z c (sg n ++ [DS[0]] ++ (if 1 < DS.size then 46 :: (bl DS).drop 1 else [])) wx))
                      case first =>
                        as_aux_lemma =>
                          by_cases hd1 : (DS.size : Int) > 1
                          · have hone : 1 ≤ DS.size := by omega
                            have hL : Hid (sg n ++ [DS[0]] ++ ([46] : List UInt8) ++ bl (DS.extract 1 DS.size) = sg n ++ [DS[0]] ++ (if 1 < DS.size then 46 :: (bl DS).drop 1 else [])) := by
                              show sg n ++ [DS[0]] ++ ([46] : List UInt8) ++ bl (DS.extract 1 DS.size) = sg n ++ [DS[0]] ++ (if 1 < DS.size then 46 :: (bl DS).drop 1 else [])
                              rw [if_pos (by omega), bl_extract, ← bl_len, sl_to_end, List.append_assoc (sg n ++ [DS[0]])]
                              rfl
                            have hes : Hid (((DS.extract 1 DS.size).size : Int) ≤ 1048576) := by
                              show ((DS.extract 1 DS.size).size : Int) ≤ 1048576
                              have e := bl_extract DS 1 DS.size
                              have e2 := congrArg List.length e
                              rw [bl_len] at e2
                              unfold sl at e2
                              rw [List.length_take, List.length_drop, bl_len] at e2
                              omega
                            obtain ⟨TL, hTL⟩ : ∃ TL, DS.extract 1 DS.size = TL := ⟨_, rfl⟩
                            rw [hTL] at hL hes
                            go_wp2_with (at_builtin; first | (refine app_byte rfl _ _ rfl w w6 p6 z6 c6 (sg n ++ [DS[0]]) rfl HO7.out _ 46 rfl rfl (by omega) ?_; intro p8 z8 c8 w8 hz8 HO8) | (refine app_str rfl _ _ rfl w w8 p8 z8 c8 (sg n ++ [DS[0]] ++ [46]) rfl HO8 TL rfl (by omega) (by have := hes.out; omega) ?_; intro p9 z9 c9 w9 hz9 HO9))
                            go_meet
                            exact ⟨p9, z9, c9, rfl, by have := hes.out; omega, hL.out ▸ HO9⟩
                          · have hL : Hid (sg n ++ [DS[0]] = sg n ++ [DS[0]] ++ (if 1 < DS.size then 46 :: (bl DS).drop 1 else [])) := by
                              show sg n ++ [DS[0]] = sg n ++ [DS[0]] ++ (if 1 < DS.size then 46 :: (bl DS).drop 1 else [])
                              rw [if_neg (by omega), List.append_nil]
                            go_wp2
                            go_meet
                            exact ⟨p6, z6, c6, rfl, by omega, hL.out ▸ HO7.out⟩
                      case rest =>
                        clear HO7 hz7
                        obtain ⟨pB, zB, cB, rfl, hzB, HOB⟩ := hcut
                        obtain ⟨LB, hLB⟩ : ∃ LB, sg n ++ [DS[0]] ++ (if 1 < DS.size then 46 :: (bl DS).drop 1 else []) = LB := ⟨_, rfl⟩
                        rw [hLB] at HOB
                        have HLB : Hid (sg n ++ [DS[0]] ++ (if 1 < DS.size then 46 :: (bl DS).drop 1 else []) = LB) := hLB
                        clear hLB
                        obtain ⟨wB, hwB⟩ : ∃ wB, wB = wc := ⟨_, rfl⟩
                        subst hwB
                        go_upto_if 146 with (at_builtin; refine app_byte rfl _ _ rfl w wB pB zB cB LB rfl HOB.out _ 101 rfl rfl (by omega) ?_; intro pC zC cC wC hzC HOC)
                        clear HOB
                        have HOD : Hid (OutB w pC zC cC (LB ++ [101]) wC) := HOC
                        clear HOC
                        go_cut [20] (fun s20 wx => ∃ (p : Option Addr) (z c : Nat), s20 = .slice p z c ∧ (z : Int) ≤ 2000002 ∧ 0 < z ∧ Hid (OutB w p z c (LB ++ [101] ++ [if pow < 0 then 45 else 43]) wx))
                        case first =>
                          as_aux_lemma =>
                            cases PN with
                            | true =>
                              have hL : Hid ((45 : UInt8) = if pow < 0 then 45 else 43) := by
                                show (45 : UInt8) = if pow < 0 then 45 else 43
                                rw [if_pos (of_decide_eq_true HPN.out)]
                              go_wp2_with (at_builtin; refine app_byte rfl _ _ rfl w wC pC zC cC (LB ++ [101]) rfl HOD.out _ 45 rfl rfl (by omega) ?_; intro p8 z8 c8 w8 hz8 HO8)
                              go_meet
                              exact ⟨p8, z8, c8, rfl, by omega, by omega, hL.out ▸ HO8⟩
                            | false =>
                              have hL : Hid ((43 : UInt8) = if pow < 0 then 45 else 43) := by
                                show (43 : UInt8) = if pow < 0 then 45 else 43
                                rw [if_neg (of_decide_eq_false HPN.out)]
                              go_wp2_with (at_builtin; refine app_byte rfl _ _ rfl w wC pC zC cC (LB ++ [101]) rfl HOD.out _ 43 rfl rfl (by omega) ?_; intro p8 z8 c8 w8 hz8 HO8)
                              go_meet
                              exact ⟨p8, z8, c8, rfl, by omega, by omega, hL.out ▸ HO8⟩
                        case rest =>
                          clear HOD
                          obtain ⟨pE, zE, cE, rfl, hzE, hzE0, HOE⟩ := hcut
                          obtain ⟨wE, hwE⟩ : ∃ wE, wE = wc := ⟨_, rfl⟩
                          subst hwE
                          have hps : Hid ((PS.size : Int) ≤ 2000000) := HPZ.out
                          go_upto_region 41 with (at_builtin; refine app_str rfl _ _ rfl w wE pE zE cE (LB ++ [101] ++ [if pow < 0 then 45 else 43]) rfl HOE.out PS rfl (by omega) (by have := hps.out; omega) ?_; intro p9 z9 c9 w9 hz9 HO9)
                          have hz90 : 0 < z9 := by
                            clear HRv HLB HPd HPS HPN HOE HO9 HPZ hps Hr
                            omega
                          have hcv := HO9.conv hz90
                          have e : ofl (LB ++ [101] ++ [if pow < 0 then 45 else 43] ++ bl PS) = R := by
                            rw [sciL n DS PS pow LB Hr.out hds0 HPd.out.2.2 HLB.out]
                            exact HRv.out
                          rw [e] at hcv
                          have HB9 : Hid (Below w.heap.size w w9) := HO9.2.2
                          clear HO9 e HOE HPd HRv HLB HPN HPS
                          go_wp2
                          go_ret2
                          exact ⟨rfl, HB9.out⟩
    · have e : R = ⟨#[48]⟩ := by
        have h := hall.out
        rw [bl_drop_end ALL k (by omega), HALL.out] at h
        rw [← HR.out, canon_zero h]
      subst e
      have hke : k = ALL.size := by omega
      subst hke
      go_wp2
      go_ret2
      exact ⟨rfl, hb1⟩
end Go.Proofs.Qxb6603961aDoor
