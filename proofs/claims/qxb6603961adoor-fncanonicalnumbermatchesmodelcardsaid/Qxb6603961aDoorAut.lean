/-
  Seat b6603961aD: the walk of zzScanAutomaton (strict).
-/
import Derived.Test.Qxb6603961aDoorW2
import Derived.Deep.DeepCutAuto
import Derived.Deep.CutBlock
namespace Go.Proofs.Qxb6603961aDoor
open Go.RowKit Nb

theorem results_tmp6 {fn : Func} {t u v x y z : Tmp} (h : fn.results = #[.tmp t, .tmp u, .tmp v, .tmp x, .tmp y, .tmp z]) (tmps : Array Value) (P : Program) (w : World) :
    (results fn tmps).run P w = .ok (.tuple #[tmps.getD t undef, tmps.getD u undef, tmps.getD v undef, tmps.getD x undef, tmps.getD y undef, tmps.getD z undef]) w := by
  simp [results, h]
def scanV : Option Parts → Value
  | none => .tuple #[.bool false, .string ⟨#[]⟩, .string ⟨#[]⟩, .bool false, .string ⟨#[]⟩, .bool false]
  | some P => .tuple #[.bool P.1, .string (ofl P.2.1), .string (ofl P.2.2.1), .bool P.2.2.2.1, .string (ofl P.2.2.2.2), .bool true]
theorem ofl_drop (s : ByteArray) (a : Nat) : ofl ((bl s).drop a) = s.extract a s.size := eq_ofl (by rw [bl_extract, ← bl_len, sl_to_end])
theorem ofl_sl (s : ByteArray) (a b : Nat) : ofl (sl (bl s) a b) = s.extract a b := eq_ofl (bl_extract s a b)
theorem scanV_a (s : ByteArray) (n : Bool) (is : Nat) : scanV (some (n, (bl s).drop is, [], false, [])) = .tuple #[.bool n, .string (s.extract is s.size), .string ⟨#[]⟩, .bool false, .string ⟨#[]⟩, .bool true] := by
  show Value.tuple #[.bool n, .string (ofl ((bl s).drop is)), .string ⟨#[]⟩, .bool false, .string ⟨#[]⟩, .bool true] = _
  rw [ofl_drop]
theorem scanV_b (s : ByteArray) (n : Bool) (is ie fs : Nat) : scanV (some (n, sl (bl s) is ie, (bl s).drop fs, false, [])) = .tuple #[.bool n, .string (s.extract is ie), .string (s.extract fs s.size), .bool false, .string ⟨#[]⟩, .bool true] := by
  show Value.tuple #[.bool n, .string (ofl (sl (bl s) is ie)), .string (ofl ((bl s).drop fs)), .bool false, .string ⟨#[]⟩, .bool true] = _
  rw [ofl_drop, ofl_sl]
theorem scanV_c (s : ByteArray) (n en : Bool) (is ie es : Nat) {fs fe : Nat} : scanV (some (n, sl (bl s) is ie, fr (bl s) false fs fe, en, (bl s).drop es)) = .tuple #[.bool n, .string (s.extract is ie), .string ⟨#[]⟩, .bool en, .string (s.extract es s.size), .bool true] := by
  show Value.tuple #[.bool n, .string (ofl (sl (bl s) is ie)), .string ⟨#[]⟩, .bool en, .string (ofl ((bl s).drop es)), .bool true] = _
  rw [ofl_drop, ofl_sl]
theorem scanV_d (s : ByteArray) (n en : Bool) (is ie fs fe es : Nat) : scanV (some (n, sl (bl s) is ie, fr (bl s) true fs fe, en, (bl s).drop es)) = .tuple #[.bool n, .string (s.extract is ie), .string (s.extract fs fe), .bool en, .string (s.extract es s.size), .bool true] := by
  show Value.tuple #[.bool n, .string (ofl (sl (bl s) is ie)), .string (ofl (sl (bl s) fs fe)), .bool en, .string (ofl ((bl s).drop es)), .bool true] = _
  rw [ofl_drop, ofl_sl, ofl_sl]

def StR (t : List UInt8) (st : Int) (n en hf : Bool) (is ie fs fe es i : Nat) : Prop :=
  (st = 0 ∧ Inv0 t n en hf i) ∨ (st = 1 ∧ Inv1 t n en hf i) ∨ (st = 2 ∧ Inv2 t n en hf is i) ∨ (st = 3 ∧ Inv3 t n en hf is i) ∨ (st = 4 ∧ Inv4 t n en hf is ie i) ∨
  (st = 5 ∧ Inv5 t n en hf is ie fs i) ∨ (st = 6 ∧ Inv6 t n en hf is ie fs fe i) ∨ (st = 7 ∧ Inv7 t n en hf is ie fs fe i) ∨ (st = 8 ∧ Inv8 t n en hf is ie fs fe es i)
def Oth (c : UInt8) : Prop := c ≠ 45 ∧ c ≠ 43 ∧ c ≠ 46 ∧ c ≠ 101 ∧ c ≠ 69 ∧ c ≠ 48
theorem classes (c : UInt8) : c = 45 ∨ c = 43 ∨ c = 46 ∨ c = 101 ∨ c = 69 ∨ c = 48 ∨
    (isDig c = true ∧ c ≠ 45 ∧ c ≠ 43 ∧ c ≠ 46 ∧ c ≠ 101 ∧ c ≠ 69 ∧ c ≠ 48 ∧ 48 ≤ (c.toNat : Int) ∧ (c.toNat : Int) ≤ 57) ∨
    (isDig c = false ∧ c ≠ 45 ∧ c ≠ 43 ∧ c ≠ 46 ∧ c ≠ 101 ∧ c ≠ 69 ∧ c ≠ 48 ∧ ¬ 48 ≤ (c.toNat : Int)) ∨
    (isDig c = false ∧ c ≠ 45 ∧ c ≠ 43 ∧ c ≠ 46 ∧ c ≠ 101 ∧ c ≠ 69 ∧ c ≠ 48 ∧ 48 ≤ (c.toNat : Int) ∧ ¬ (c.toNat : Int) ≤ 57) := by
  by_cases h1 : c = 45; · exact Or.inl h1
  by_cases h2 : c = 43; · exact Or.inr (Or.inl h2)
  by_cases h3 : c = 46; · exact Or.inr (Or.inr (Or.inl h3))
  by_cases h4 : c = 101; · exact Or.inr (Or.inr (Or.inr (Or.inl h4)))
  by_cases h5 : c = 69; · exact Or.inr (Or.inr (Or.inr (Or.inr (Or.inl h5))))
  by_cases h6 : c = 48; · exact Or.inr (Or.inr (Or.inr (Or.inr (Or.inr (Or.inl h6)))))
  by_cases h7 : 48 ≤ (c.toNat : Int)
  · by_cases h8 : (c.toNat : Int) ≤ 57
    · exact Or.inr (Or.inr (Or.inr (Or.inr (Or.inr (Or.inr (Or.inl ⟨isDig_int c h7 h8, h1, h2, h3, h4, h5, h6, h7, h8⟩))))))
    · exact Or.inr (Or.inr (Or.inr (Or.inr (Or.inr (Or.inr (Or.inr (Or.inr ⟨isDig_int_hi c h8, h1, h2, h3, h4, h5, h6, h7, h8⟩)))))))
  · exact Or.inr (Or.inr (Or.inr (Or.inr (Or.inr (Or.inr (Or.inr (Or.inl ⟨isDig_int_lo c h7, h1, h2, h3, h4, h5, h6, h7⟩)))))))
theorem beq_of {c : UInt8} (m : Nat) (hm : m < 256) (h : c ≠ UInt8.ofNat m) : ((c.toNat : Int) == (m : Int)) = false := beq_eq_false_iff_ne.2 (fun e => h (by
  apply UInt8.toNat_inj.1
  rw [UInt8.toNat_ofNat']
  omega))
theorem beqs {c : UInt8} (h1 : c ≠ 45) (h2 : c ≠ 43) (h3 : c ≠ 46) (h4 : c ≠ 101) (h5 : c ≠ 69) (h6 : c ≠ 48) :
    ((c.toNat : Int) == 45) = false ∧ ((c.toNat : Int) == 43) = false ∧ ((c.toNat : Int) == 46) = false ∧ ((c.toNat : Int) == 101) = false ∧ ((c.toNat : Int) == 69) = false ∧ ((c.toNat : Int) == 48) = false :=
  ⟨beq_of 45 (by decide) h1, beq_of 43 (by decide) h2, beq_of 46 (by decide) h3, beq_of 101 (by decide) h4, beq_of 69 (by decide) h5, beq_of 48 (by decide) h6⟩

theorem isDig_cases (c : UInt8) : (isDig c = true ∧ 48 ≤ (c.toNat : Int) ∧ (c.toNat : Int) ≤ 57) ∨ (isDig c = false ∧ ¬ 48 ≤ (c.toNat : Int)) ∨ (isDig c = false ∧ 48 ≤ (c.toNat : Int) ∧ ¬ (c.toNat : Int) ≤ 57) := by
  by_cases h7 : 48 ≤ (c.toNat : Int)
  · by_cases h8 : (c.toNat : Int) ≤ 57
    · exact Or.inl ⟨isDig_int c h7 h8, h7, h8⟩
    · exact Or.inr (Or.inr ⟨isDig_int_hi c h8, h7, h8⟩)
  · exact Or.inr (Or.inl ⟨isDig_int_lo c h7, h7⟩)
theorem u8_of {c : UInt8} (m : Nat) (hm : m < 256) (h : ((c.toNat : Int) == (m : Int)) = true) : c = UInt8.ofNat m := by
  have := beq_iff_eq.1 h
  apply UInt8.toNat_inj.1
  rw [UInt8.toNat_ofNat']
  omega
theorem u8_not {c : UInt8} (m : Nat) (hm : m < 256) (h : ((c.toNat : Int) == (m : Int)) = false) : c ≠ UInt8.ofNat m := by
  intro e
  have := beq_eq_false_iff_ne.1 h
  rw [e, UInt8.toNat_ofNat'] at this
  omega
set_option maxHeartbeats 40000000 in
set_option maxRecDepth 50000 in
theorem automaton_any (s : ByteArray) (w : World) (hs : s.size ≤ 9223372036854775807) :
    Calls Tryd.prog 15 #[.string s, .bool false] w fun e w' => e = .returned (scanV (scan (bl s))) ∧ Below w.heap.size w w' := by
  generalize hR : scanV (scan (bl s)) = R
  have HR : Hid (scanV (scan (bl s)) = R) := hR
  clear hR
  go_enter Tryd.func15, Tryd.ntmps15
  go_wp2
  go_loop [10, 11, 12, 13, 14, 15, 16, 17, 18, 19] (fun v10 v11 v12 v13 v14 v15 v16 v17 v18 v19 => ∃ (st : Int) (n en hf : Bool) (is ie fs fe es k : Nat), k ≤ s.size ∧ v10 = .int .i64 st ∧ v11 = .bool n ∧ v12 = .bool en ∧ v13 = .bool hf ∧ v14 = .int .i64 (is : Int) ∧ v15 = .int .i64 (ie : Int) ∧ v16 = .int .i64 (fs : Int) ∧ v17 = .int .i64 (fe : Int) ∧ v18 = .int .i64 (es : Int) ∧ v19 = .int .i64 (k : Int) ∧ Hid (StR (bl s) st n en hf is ie fs fe es k)) (fun _ _ _ _ _ _ _ _ _ i => s.size - (intOf i).toNat)
  case atStart => exact ⟨0, false, false, false, 0, 0, 0, 0, 0, 0, Nat.zero_le _, rfl, rfl, rfl, rfl, rfl, rfl, rfl, rfl, rfl, rfl, Or.inl ⟨rfl, inv_start _⟩⟩
  case round =>
    obtain ⟨st, n, en, hf, is, ie, fs, fe, es, k, hk, rfl, rfl, rfl, rfl, rfl, rfl, rfl, rfl, rfl, rfl, HI⟩ := hrel
    by_cases hlt : k < s.size
    · have hd := bl_drop s k hlt
      have HD : Hid ((bl s).drop k = s[k] :: (bl s).drop (k + 1)) := hd
      clear hd
      obtain ⟨D, hD⟩ : ∃ D : Bool, isDig s[k] = D := ⟨_, rfl⟩
      obtain ⟨M, hM⟩ : ∃ M : Bool, (((s[k].toNat : Int) == 101) || ((s[k].toNat : Int) == 69)) = M := ⟨_, rfl⟩
      have HDd : Hid (isDig s[k] = D) := hD
      have HM : Hid ((((s[k].toNat : Int) == 101) || ((s[k].toNat : Int) == 69)) = M) := hM
      clear hD hM
      go_upto_region 14 with fail
      go_cut [21] from 24 to 156 (fun s21 wx => s21 = .bool D ∧ wx = w)
      case first =>
        as_aux_lemma =>
          rcases isDig_cases s[k] with ⟨h1, h2, h3⟩ | ⟨h1, h2⟩ | ⟨h1, h2, h3⟩
          · have e : D = true := HDd.out.symm.trans h1
            subst e
            clear h1 HDd HM HI HD
            go_wp2
            go_meet
            exact ⟨rfl, rfl⟩
          · have e : D = false := HDd.out.symm.trans h1
            subst e
            clear h1 HDd HM HI HD
            go_wp2
            go_meet
            exact ⟨rfl, rfl⟩
          · have e : D = false := HDd.out.symm.trans h1
            subst e
            clear h1 HDd HM HI HD
            go_wp2
            go_meet
            exact ⟨rfl, rfl⟩
      case rest =>
      obtain ⟨rfl, hw⟩ := hcut
      have hw := hw.symm
      subst hw
      go_upto_region 15 with fail
      go_cut [22] from 24 to 156 (fun s22 wx => s22 = .bool M ∧ wx = w)
      case first =>
        as_aux_lemma =>
          cases h1 : ((s[k].toNat : Int) == 101) with
          | true =>
            have e : M = true := by rw [← HM.out, h1]; rfl
            subst e
            clear HDd HM HI HD
            go_wp2
            go_meet
            exact ⟨rfl, rfl⟩
          | false =>
            have e : M = ((s[k].toNat : Int) == 69) := by rw [← HM.out, h1]; rfl
            clear HDd HM HI HD
            go_wp2
            go_meet
            exact ⟨by rw [e], rfl⟩
      case rest =>
      obtain ⟨rfl, hw⟩ := hcut
      have hw := hw.symm
      subst hw
      have hI := HI.out
      have hd := HD.out
      clear HI HD
      unfold StR at hI
      rcases hI with ⟨rfl, hI⟩ | ⟨rfl, hI⟩ | ⟨rfl, hI⟩ | ⟨rfl, hI⟩ | ⟨rfl, hI⟩ | ⟨rfl, hI⟩ | ⟨rfl, hI⟩ | ⟨rfl, hI⟩ | ⟨rfl, hI⟩
      · as_aux_lemma =>
          cases h45 : ((s[k].toNat : Int) == 45)
          · cases h43 : ((s[k].toNat : Int) == 43)
            · cases D
              · have hnd : isDig s[k] = false := HDd.out
                have hne45 : s[k] ≠ 45 := u8_not 45 (by decide) h45
                have e : R = scanV none := HR.out.symm.trans (congrArg scanV (inv1_bad (inv0_other hI hd hne45) hd hnd))
                subst e
                clear hI hd HDd HM
                go_wp2
                refine bodyPost_ret (results_tmp6 rfl _ _ _) rfl ?_
                exact ⟨rfl, Below.refl _ _⟩
              · cases h48 : ((s[k].toNat : Int) == 48)
                · have hdg : isDig s[k] = true := HDd.out
                  have hne45 : s[k] ≠ 45 := u8_not 45 (by decide) h45
                  have hne48 : s[k] ≠ 48 := u8_not 48 (by decide) h48
                  have HN : Hid (StR (bl s) 3 n en hf k ie fs fe es (k + 1)) := Or.inr (Or.inr (Or.inr (Or.inl ⟨rfl, inv1_dig (inv0_other hI hd hne45) hd hdg hne48⟩)))
                  clear hI hd HDd HM
                  go_wp2
                  go_round
                  case rel => exact ⟨3, n, en, hf, k, ie, fs, fe, es, k + 1, by omega, rfl, rfl, rfl, rfl, rfl, rfl, rfl, rfl, rfl, by go_num, HN⟩
                  case measure => simp [intOf]; omega
                · have hd0 := hd
                  have hne45 : s[k] ≠ 45 := u8_not 45 (by decide) h45
                  have hc : s[k] = 48 := u8_of 48 (by decide) h48
                  have hx : (s[k].toNat : Int) = 48 := by rw [hc]; rfl
                  rw [hc] at hd
                  clear h48 hc
                  have HN : Hid (StR (bl s) 2 n en hf k ie fs fe es (k + 1)) := Or.inr (Or.inr (Or.inl ⟨rfl, inv1_zero (inv0_other hI hd0 hne45) hd⟩))
                  clear hI hd HDd HM
                  go_wp2
                  go_round
                  case rel => exact ⟨2, n, en, hf, k, ie, fs, fe, es, k + 1, by omega, rfl, rfl, rfl, rfl, rfl, rfl, rfl, rfl, rfl, by go_num, HN⟩
                  case measure => simp [intOf]; omega
            · have hc : s[k] = 43 := u8_of 43 (by decide) h43
              have hx : (s[k].toNat : Int) = 43 := by rw [hc]; rfl
              have eD : D = false := by rw [← HDd.out, hc]; rfl
              subst eD
              have hnd : isDig 43 = false := by decide
              rw [hc] at hd
              clear h43 h45 hc
              have e : R = scanV none := HR.out.symm.trans (congrArg scanV (inv1_bad (inv0_other hI hd (by decide)) hd hnd))
              subst e
              clear hI hd HDd HM
              go_wp2
              refine bodyPost_ret (results_tmp6 rfl _ _ _) rfl ?_
              exact ⟨rfl, Below.refl _ _⟩
          · have hc : s[k] = 45 := u8_of 45 (by decide) h45
            have hx : (s[k].toNat : Int) = 45 := by rw [hc]; rfl
            rw [hc] at hd
            clear h45 hc
            have HN : Hid (StR (bl s) 1 true en hf is ie fs fe es (k + 1)) := Or.inr (Or.inl ⟨rfl, inv0_minus hI hd⟩)
            clear hI hd HDd HM
            go_wp2
            go_round
            case rel => exact ⟨1, true, en, hf, is, ie, fs, fe, es, k + 1, by omega, rfl, rfl, rfl, rfl, rfl, rfl, rfl, rfl, rfl, by go_num, HN⟩
            case measure => simp [intOf]; omega
      · as_aux_lemma =>
          cases D
          · have hnd : isDig s[k] = false := HDd.out
            have e : R = scanV none := HR.out.symm.trans (congrArg scanV (inv1_bad hI hd hnd))
            subst e
            clear hI hd HDd HM
            go_wp2
            refine bodyPost_ret (results_tmp6 rfl _ _ _) rfl ?_
            exact ⟨rfl, Below.refl _ _⟩
          · cases h48 : ((s[k].toNat : Int) == 48)
            · have hdg : isDig s[k] = true := HDd.out
              have hne48 : s[k] ≠ 48 := u8_not 48 (by decide) h48
              have HN : Hid (StR (bl s) 3 n en hf k ie fs fe es (k + 1)) := Or.inr (Or.inr (Or.inr (Or.inl ⟨rfl, inv1_dig hI hd hdg hne48⟩)))
              clear hI hd HDd HM
              go_wp2
              go_round
              case rel => exact ⟨3, n, en, hf, k, ie, fs, fe, es, k + 1, by omega, rfl, rfl, rfl, rfl, rfl, rfl, rfl, rfl, rfl, by go_num, HN⟩
              case measure => simp [intOf]; omega
            · have hc : s[k] = 48 := u8_of 48 (by decide) h48
              have hx : (s[k].toNat : Int) = 48 := by rw [hc]; rfl
              rw [hc] at hd
              clear h48 hc
              have HN : Hid (StR (bl s) 2 n en hf k ie fs fe es (k + 1)) := Or.inr (Or.inr (Or.inl ⟨rfl, inv1_zero hI hd⟩))
              clear hI hd HDd HM
              go_wp2
              go_round
              case rel => exact ⟨2, n, en, hf, k, ie, fs, fe, es, k + 1, by omega, rfl, rfl, rfl, rfl, rfl, rfl, rfl, rfl, rfl, by go_num, HN⟩
              case measure => simp [intOf]; omega
      · as_aux_lemma =>
          cases h46 : ((s[k].toNat : Int) == 46)
          · cases M
            · have hne46 : s[k] ≠ 46 := u8_not 46 (by decide) h46
              have hmn : s[k] ≠ 101 ∧ s[k] ≠ 69 := by
                have h := HM.out
                rw [Bool.or_eq_false_iff] at h
                exact ⟨u8_not 101 (by decide) h.1, u8_not 69 (by decide) h.2⟩
              have e : R = scanV none := HR.out.symm.trans (congrArg scanV (inv2_bad hI hd hne46 hmn.1 hmn.2))
              subst e
              clear hI hd HDd HM
              go_wp2
              refine bodyPost_ret (results_tmp6 rfl _ _ _) rfl ?_
              exact ⟨rfl, Below.refl _ _⟩
            · have hme : s[k] = 101 ∨ s[k] = 69 := by
                have h := HM.out
                rw [Bool.or_eq_true] at h
                rcases h with h | h
                · exact Or.inl (u8_of 101 (by decide) h)
                · exact Or.inr (u8_of 69 (by decide) h)
              have HN : Hid (StR (bl s) 6 n en hf is k fs fe es (k + 1)) := Or.inr (Or.inr (Or.inr (Or.inr (Or.inr (Or.inr (Or.inl ⟨rfl, inv2_e hI hd hme⟩))))))
              clear hI hd HDd HM
              go_wp2
              go_round
              case rel => exact ⟨6, n, en, hf, is, k, fs, fe, es, k + 1, by omega, rfl, rfl, rfl, rfl, rfl, rfl, rfl, rfl, rfl, by go_num, HN⟩
              case measure => simp [intOf]; omega
          · have hc : s[k] = 46 := u8_of 46 (by decide) h46
            have hx : (s[k].toNat : Int) = 46 := by rw [hc]; rfl
            rw [hc] at hd
            clear h46 hc
            have HN : Hid (StR (bl s) 4 n en hf is k fs fe es (k + 1)) := Or.inr (Or.inr (Or.inr (Or.inr (Or.inl ⟨rfl, inv2_dot hI hd⟩))))
            clear hI hd HDd HM
            go_wp2
            go_round
            case rel => exact ⟨4, n, en, hf, is, k, fs, fe, es, k + 1, by omega, rfl, rfl, rfl, rfl, rfl, rfl, rfl, rfl, rfl, by go_num, HN⟩
            case measure => simp [intOf]; omega
      · as_aux_lemma =>
          cases D
          · cases h46 : ((s[k].toNat : Int) == 46)
            · cases M
              · have hnd : isDig s[k] = false := HDd.out
                have hne46 : s[k] ≠ 46 := u8_not 46 (by decide) h46
                have hmn : s[k] ≠ 101 ∧ s[k] ≠ 69 := by
                  have h := HM.out
                  rw [Bool.or_eq_false_iff] at h
                  exact ⟨u8_not 101 (by decide) h.1, u8_not 69 (by decide) h.2⟩
                have e : R = scanV none := HR.out.symm.trans (congrArg scanV (inv2_bad (inv3_two hI hd hnd) hd hne46 hmn.1 hmn.2))
                subst e
                clear hI hd HDd HM
                go_wp2
                refine bodyPost_ret (results_tmp6 rfl _ _ _) rfl ?_
                exact ⟨rfl, Below.refl _ _⟩
              · have hnd : isDig s[k] = false := HDd.out
                have hme : s[k] = 101 ∨ s[k] = 69 := by
                  have h := HM.out
                  rw [Bool.or_eq_true] at h
                  rcases h with h | h
                  · exact Or.inl (u8_of 101 (by decide) h)
                  · exact Or.inr (u8_of 69 (by decide) h)
                have HN : Hid (StR (bl s) 6 n en hf is k fs fe es (k + 1)) := Or.inr (Or.inr (Or.inr (Or.inr (Or.inr (Or.inr (Or.inl ⟨rfl, inv2_e (inv3_two hI hd hnd) hd hme⟩))))))
                clear hI hd HDd HM
                go_wp2
                go_round
                case rel => exact ⟨6, n, en, hf, is, k, fs, fe, es, k + 1, by omega, rfl, rfl, rfl, rfl, rfl, rfl, rfl, rfl, rfl, by go_num, HN⟩
                case measure => simp [intOf]; omega
            · have hnd : isDig s[k] = false := HDd.out
              have h2 := inv3_two hI hd hnd
              have hc : s[k] = 46 := u8_of 46 (by decide) h46
              have hx : (s[k].toNat : Int) = 46 := by rw [hc]; rfl
              rw [hc] at hd
              clear h46 hc
              clear hnd
              have HN : Hid (StR (bl s) 4 n en hf is k fs fe es (k + 1)) := Or.inr (Or.inr (Or.inr (Or.inr (Or.inl ⟨rfl, inv2_dot h2 hd⟩))))
              clear hI hd HDd HM h2
              go_wp2
              go_round
              case rel => exact ⟨4, n, en, hf, is, k, fs, fe, es, k + 1, by omega, rfl, rfl, rfl, rfl, rfl, rfl, rfl, rfl, rfl, by go_num, HN⟩
              case measure => simp [intOf]; omega
          · have hdg : isDig s[k] = true := HDd.out
            have HN : Hid (StR (bl s) 3 n en hf is ie fs fe es (k + 1)) := Or.inr (Or.inr (Or.inr (Or.inl ⟨rfl, inv3_dig hI hd hdg⟩)))
            clear hI hd HDd HM
            go_wp2
            go_round
            case rel => exact ⟨3, n, en, hf, is, ie, fs, fe, es, k + 1, by omega, rfl, rfl, rfl, rfl, rfl, rfl, rfl, rfl, rfl, by go_num, HN⟩
            case measure => simp [intOf]; omega
      · as_aux_lemma =>
          cases D
          · have hnd : isDig s[k] = false := HDd.out
            have e : R = scanV none := HR.out.symm.trans (congrArg scanV (inv4_bad hI hd hnd))
            subst e
            clear hI hd HDd HM
            go_wp2
            refine bodyPost_ret (results_tmp6 rfl _ _ _) rfl ?_
            exact ⟨rfl, Below.refl _ _⟩
          · have hdg : isDig s[k] = true := HDd.out
            have HN : Hid (StR (bl s) 5 n en true is ie k fe es (k + 1)) := Or.inr (Or.inr (Or.inr (Or.inr (Or.inr (Or.inl ⟨rfl, inv4_dig hI hd hdg⟩)))))
            clear hI hd HDd HM
            go_wp2
            go_round
            case rel => exact ⟨5, n, en, true, is, ie, k, fe, es, k + 1, by omega, rfl, rfl, rfl, rfl, rfl, rfl, rfl, rfl, rfl, by go_num, HN⟩
            case measure => simp [intOf]; omega
      · as_aux_lemma =>
          cases D
          · cases M
            · have hnd : isDig s[k] = false := HDd.out
              have hmn : s[k] ≠ 101 ∧ s[k] ≠ 69 := by
                have h := HM.out
                rw [Bool.or_eq_false_iff] at h
                exact ⟨u8_not 101 (by decide) h.1, u8_not 69 (by decide) h.2⟩
              have e : R = scanV none := HR.out.symm.trans (congrArg scanV (inv5_bad hI hd hnd hmn.1 hmn.2))
              subst e
              clear hI hd HDd HM
              go_wp2
              refine bodyPost_ret (results_tmp6 rfl _ _ _) rfl ?_
              exact ⟨rfl, Below.refl _ _⟩
            · have hme : s[k] = 101 ∨ s[k] = 69 := by
                have h := HM.out
                rw [Bool.or_eq_true] at h
                rcases h with h | h
                · exact Or.inl (u8_of 101 (by decide) h)
                · exact Or.inr (u8_of 69 (by decide) h)
              have HN : Hid (StR (bl s) 6 n en hf is ie fs k es (k + 1)) := Or.inr (Or.inr (Or.inr (Or.inr (Or.inr (Or.inr (Or.inl ⟨rfl, inv5_e hI hd hme⟩))))))
              clear hI hd HDd HM
              go_wp2
              go_round
              case rel => exact ⟨6, n, en, hf, is, ie, fs, k, es, k + 1, by omega, rfl, rfl, rfl, rfl, rfl, rfl, rfl, rfl, rfl, by go_num, HN⟩
              case measure => simp [intOf]; omega
          · have hdg : isDig s[k] = true := HDd.out
            have HN : Hid (StR (bl s) 5 n en hf is ie fs fe es (k + 1)) := Or.inr (Or.inr (Or.inr (Or.inr (Or.inr (Or.inl ⟨rfl, inv5_dig hI hd hdg⟩)))))
            clear hI hd HDd HM
            go_wp2
            go_round
            case rel => exact ⟨5, n, en, hf, is, ie, fs, fe, es, k + 1, by omega, rfl, rfl, rfl, rfl, rfl, rfl, rfl, rfl, rfl, by go_num, HN⟩
            case measure => simp [intOf]; omega
      · as_aux_lemma =>
          cases h43 : ((s[k].toNat : Int) == 43)
          · cases h45 : ((s[k].toNat : Int) == 45)
            · cases D
              · have hnd : isDig s[k] = false := HDd.out
                have hne43 : s[k] ≠ 43 := u8_not 43 (by decide) h43
                have hne45 : s[k] ≠ 45 := u8_not 45 (by decide) h45
                have e : R = scanV none := HR.out.symm.trans (congrArg scanV (inv7_bad (inv6_dig hI hd hne43 hne45) hd hnd))
                subst e
                clear hI hd HDd HM
                go_wp2
                refine bodyPost_ret (results_tmp6 rfl _ _ _) rfl ?_
                exact ⟨rfl, Below.refl _ _⟩
              · have hdg : isDig s[k] = true := HDd.out
                have hne43 : s[k] ≠ 43 := u8_not 43 (by decide) h43
                have hne45 : s[k] ≠ 45 := u8_not 45 (by decide) h45
                have HN : Hid (StR (bl s) 8 n en hf is ie fs fe k (k + 1)) := Or.inr (Or.inr (Or.inr (Or.inr (Or.inr (Or.inr (Or.inr (Or.inr (⟨rfl, inv7_dig (inv6_dig hI hd hne43 hne45) hd hdg⟩))))))))
                clear hI hd HDd HM
                go_wp2
                go_round
                case rel => exact ⟨8, n, en, hf, is, ie, fs, fe, k, k + 1, by omega, rfl, rfl, rfl, rfl, rfl, rfl, rfl, rfl, rfl, by go_num, HN⟩
                case measure => simp [intOf]; omega
            · have hc : s[k] = 45 := u8_of 45 (by decide) h45
              have hx : (s[k].toNat : Int) = 45 := by rw [hc]; rfl
              rw [hc] at hd
              clear h45 hc
              have HN : Hid (StR (bl s) 7 n true hf is ie fs fe es (k + 1)) := Or.inr (Or.inr (Or.inr (Or.inr (Or.inr (Or.inr (Or.inr (Or.inl ⟨rfl, inv6_sign hI hd (Or.inr rfl)⟩)))))))
              clear hI hd HDd HM
              go_wp2
              go_round
              case rel => exact ⟨7, n, true, hf, is, ie, fs, fe, es, k + 1, by omega, rfl, rfl, rfl, rfl, rfl, rfl, rfl, rfl, rfl, by go_num, HN⟩
              case measure => simp [intOf]; omega
          · have hc : s[k] = 43 := u8_of 43 (by decide) h43
            have hx : (s[k].toNat : Int) = 43 := by rw [hc]; rfl
            rw [hc] at hd
            clear h43 hc
            have HN : Hid (StR (bl s) 7 n false hf is ie fs fe es (k + 1)) := Or.inr (Or.inr (Or.inr (Or.inr (Or.inr (Or.inr (Or.inr (Or.inl ⟨rfl, inv6_sign hI hd (Or.inl rfl)⟩)))))))
            clear hI hd HDd HM
            go_wp2
            go_round
            case rel => exact ⟨7, n, false, hf, is, ie, fs, fe, es, k + 1, by omega, rfl, rfl, rfl, rfl, rfl, rfl, rfl, rfl, rfl, by go_num, HN⟩
            case measure => simp [intOf]; omega
      · as_aux_lemma =>
          cases D
          · have hnd : isDig s[k] = false := HDd.out
            have e : R = scanV none := HR.out.symm.trans (congrArg scanV (inv7_bad hI hd hnd))
            subst e
            clear hI hd HDd HM
            go_wp2
            refine bodyPost_ret (results_tmp6 rfl _ _ _) rfl ?_
            exact ⟨rfl, Below.refl _ _⟩
          · have hdg : isDig s[k] = true := HDd.out
            have HN : Hid (StR (bl s) 8 n en hf is ie fs fe k (k + 1)) := Or.inr (Or.inr (Or.inr (Or.inr (Or.inr (Or.inr (Or.inr (Or.inr (⟨rfl, inv7_dig hI hd hdg⟩))))))))
            clear hI hd HDd HM
            go_wp2
            go_round
            case rel => exact ⟨8, n, en, hf, is, ie, fs, fe, k, k + 1, by omega, rfl, rfl, rfl, rfl, rfl, rfl, rfl, rfl, rfl, by go_num, HN⟩
            case measure => simp [intOf]; omega
      · as_aux_lemma =>
          cases D
          · have hnd : isDig s[k] = false := HDd.out
            have e : R = scanV none := HR.out.symm.trans (congrArg scanV (inv8_bad hI hd hnd))
            subst e
            clear hI hd HDd HM
            go_wp2
            refine bodyPost_ret (results_tmp6 rfl _ _ _) rfl ?_
            exact ⟨rfl, Below.refl _ _⟩
          · have hdg : isDig s[k] = true := HDd.out
            have HN : Hid (StR (bl s) 8 n en hf is ie fs fe es (k + 1)) := Or.inr (Or.inr (Or.inr (Or.inr (Or.inr (Or.inr (Or.inr (Or.inr (⟨rfl, inv8_dig hI hd hdg⟩))))))))
            clear hI hd HDd HM
            go_wp2
            go_round
            case rel => exact ⟨8, n, en, hf, is, ie, fs, fe, es, k + 1, by omega, rfl, rfl, rfl, rfl, rfl, rfl, rfl, rfl, rfl, by go_num, HN⟩
            case measure => simp [intOf]; omega
    · as_aux_lemma =>
      have hd := bl_drop_end s k (by omega)
      have hI := HI.out
      clear HI
      unfold StR at hI
      rcases hI with ⟨rfl, hI⟩ | ⟨rfl, hI⟩ | ⟨rfl, hI⟩ | ⟨rfl, hI⟩ | ⟨rfl, hI⟩ | ⟨rfl, hI⟩ | ⟨rfl, hI⟩ | ⟨rfl, hI⟩ | ⟨rfl, hI⟩
      · have e : R = scanV none := HR.out.symm.trans (congrArg scanV (inv0_end hI hd))
        subst e
        clear hI hd
        go_wp2
        refine bodyPost_ret (results_tmp6 rfl _ _ _) rfl ?_
        exact ⟨rfl, Below.refl _ _⟩
      · have e : R = scanV none := HR.out.symm.trans (congrArg scanV (inv1_end hI hd))
        subst e
        clear hI hd
        go_wp2
        refine bodyPost_ret (results_tmp6 rfl _ _ _) rfl ?_
        exact ⟨rfl, Below.refl _ _⟩
      · have e : R = .tuple #[.bool n, .string (s.extract is s.size), .string ⟨#[]⟩, .bool false, .string ⟨#[]⟩, .bool true] := by rw [← HR.out, inv2_end hI hd]; exact scanV_a s n is
        subst e
        have h1 : is ≤ s.size := Nat.le_trans hI.2.2.1 hk
        clear hI hd
        go_wp2_with fail
        go_quiet (fail)
        go_wp2
        refine bodyPost_ret (results_tmp6 rfl _ _ _) rfl ?_
        exact ⟨rfl, below_drewN _ _ _⟩
      · have e : R = .tuple #[.bool n, .string (s.extract is s.size), .string ⟨#[]⟩, .bool false, .string ⟨#[]⟩, .bool true] := by rw [← HR.out, inv3_end hI hd]; exact scanV_a s n is
        subst e
        have h1 : is ≤ s.size := Nat.le_trans hI.2.2.1 hk
        clear hI hd
        go_wp2_with fail
        go_quiet (fail)
        go_wp2
        refine bodyPost_ret (results_tmp6 rfl _ _ _) rfl ?_
        exact ⟨rfl, below_drewN _ _ _⟩
      · have e : R = scanV none := HR.out.symm.trans (congrArg scanV (inv4_end hI hd))
        subst e
        clear hI hd
        go_wp2
        refine bodyPost_ret (results_tmp6 rfl _ _ _) rfl ?_
        exact ⟨rfl, Below.refl _ _⟩
      · have e : R = .tuple #[.bool n, .string (s.extract is ie), .string (s.extract fs s.size), .bool false, .string ⟨#[]⟩, .bool true] := by rw [← HR.out, inv5_end hI hd]; exact scanV_b s n is ie fs
        subst e
        have h1 : is ≤ ie := hI.2.2.1
        have h2 : ie ≤ s.size := Nat.le_trans hI.2.2.2.1 hk
        have h3 : fs ≤ s.size := Nat.le_trans hI.2.2.2.2.1 hk
        clear hI hd
        go_wp2_with fail
        go_quiet (fail)
        go_wp2
        refine bodyPost_ret (results_tmp6 rfl _ _ _) rfl ?_
        exact ⟨rfl, below_drewN _ _ _⟩
      · have e : R = scanV none := HR.out.symm.trans (congrArg scanV (inv6_end hI hd))
        subst e
        clear hI hd
        go_wp2
        refine bodyPost_ret (results_tmp6 rfl _ _ _) rfl ?_
        exact ⟨rfl, Below.refl _ _⟩
      · have e : R = scanV none := HR.out.symm.trans (congrArg scanV (inv7_end hI hd))
        subst e
        clear hI hd
        go_wp2
        refine bodyPost_ret (results_tmp6 rfl _ _ _) rfl ?_
        exact ⟨rfl, Below.refl _ _⟩
      · have h1 : is ≤ ie := hI.1
        have h2 : ie ≤ s.size := Nat.le_trans hI.2.1 hk
        have h3 : es ≤ s.size := Nat.le_trans hI.2.2.2.1 hk
        cases hf
        · have e : R = .tuple #[.bool n, .string (s.extract is ie), .string ⟨#[]⟩, .bool en, .string (s.extract es s.size), .bool true] := by rw [← HR.out, inv8_end hI hd]; exact scanV_c s n en is ie es
          subst e
          clear hI hd
          go_wp2_with fail
          go_quiet (fail)
          go_wp2
          refine bodyPost_ret (results_tmp6 rfl _ _ _) rfl ?_
          exact ⟨rfl, below_drewN _ _ _⟩
        · have e : R = .tuple #[.bool n, .string (s.extract is ie), .string (s.extract fs fe), .bool en, .string (s.extract es s.size), .bool true] := by rw [← HR.out, inv8_end hI hd]; exact scanV_d s n en is ie fs fe es
          subst e
          have h4 := (hI.2.2.1 rfl).1
          have h5 : fe ≤ s.size := Nat.le_trans (hI.2.2.1 rfl).2 hk
          clear hI hd
          go_wp2_with fail
          go_quiet (fail)
          go_wp2
          refine bodyPost_ret (results_tmp6 rfl _ _ _) rfl ?_
          exact ⟨rfl, below_drewN _ _ _⟩
end Go.Proofs.Qxb6603961aDoor
