/-
  Seat b6602839aD: the law FnInsertedFieldUnfoldsToItsValue: her walk.
-/
import Derived.Test.Qxb6602839aDoorLawI
namespace Go.Proofs.Qxb6602839aDoor
open Go.Shelf Go.RowKit

set_option maxHeartbeats 4000000 in
set_option maxRecDepth 50000 in
theorem lawI_any (m : Int) (st nm vl : ByteArray) (pb pr pi : Option Addr) (nb cb nr cr ni ci : Nat) (lb raw : List UInt8) (bs : List Int) (w : World) (hb : Arg w pb nb lb) (hr : Arg w pr nr raw) (hi : ArgI w pi ni bs) (hm : w.cell? ⟨0, 0, none⟩ = some (.int .i64 m))
    (h1 : st.size ≤ 9223372036854775807) (h2 : nb ≤ 9223372036854775807) (h3 : nr ≤ 9223372036854775807) (h4 : ni ≤ 9223372036854775807) (h5 : nm.size ≤ 9223372036854775807) (h6 : vl.size ≤ 9223372036854775807) :
    Calls Tryd.prog 5 #[.string st, .slice pb nb cb, .slice pr nr cr, .slice pi ni ci, .string nm, .string vl] w fun e w' => e = .returned (.bool true) ∧ Below w.heap.size w w' := by
  have hz := bytes11_all st nm vl pb pr pi nb cb nr cr ni ci w h1 h2 h3 h4 h5 h6
  have HA : Hid (Arg w pb nb lb ∧ Arg w pr nr raw ∧ ArgI w pi ni bs ∧ w.cell? ⟨0, 0, none⟩ = some (.int .i64 m)) := ⟨hb, hr, hi, hm⟩
  clear hb hr hi hm
  go_enter Tryd.func5, Tryd.ntmps5
  go_wp2_with fail
  refine hz.mono ?_
  rintro e w1 ⟨⟨b, rfl⟩, hw⟩
  have hw := hw.symm
  subst hw
  clear hz
  cases b with
  | false =>
    go_wp2
    go_ret
    exact ⟨rfl, Below.refl _ _⟩
  | true =>
    rcases Int.lt_or_le 1048576 (st.size : Int) with g1 | g1
    · go_wp2
      go_ret
      exact ⟨rfl, Below.refl _ _⟩
    rcases Int.lt_or_le 1048576 (nb : Int) with g2 | g2
    · go_wp2
      go_ret
      exact ⟨rfl, Below.refl _ _⟩
    rcases Int.lt_or_le 1048576 (nr : Int) with g3 | g3
    · go_wp2
      go_ret
      exact ⟨rfl, Below.refl _ _⟩
    rcases Int.lt_or_le 131072 (ni : Int) with g4 | g4
    · go_wp2
      go_ret
      exact ⟨rfl, Below.refl _ _⟩
    rcases Int.lt_or_le 1048576 (nm.size : Int) with g5 | g5
    · go_wp2
      go_ret
      exact ⟨rfl, Below.refl _ _⟩
    rcases Int.lt_or_le 1048576 (vl.size : Int) with g6 | g6
    · go_wp2
      go_ret
      exact ⟨rfl, Below.refl _ _⟩
    rcases Int.lt_or_le 1048576 ((st.size : Int) + (nb : Int) + (nr : Int) + 8 * (ni : Int) + (nm.size : Int) + (vl.size : Int)) with g7 | g7
    · go_wp2
      go_ret
      exact ⟨rfl, Below.refl _ _⟩
    clear h1 h2 h3 h4 h5 h6
    have hins := insertPoint_any pb pr pi nb cb nr cr ni ci raw bs w HA.out.2.1 HA.out.2.2.1 (by omega) (by omega) (by omega)
    go_wp2_with fail
    refine hins.mono ?_
    rintro e w2 ⟨⟨P, ok, rfl, hok⟩, q, rfl⟩
    clear hins
    cases ok with
    | false =>
      clear hok
      go_wp2
      go_ret
      exact ⟨rfl, below_drewN _ _ _⟩
    | true =>
      have HG : Hid (Good nb raw bs) := hok rfl
      clear hok
      have hone := fun W => oneLine_any vl W (by omega)
      cases ho : oneLine vl.data.toList with
      | false =>
        rw [ho] at hone
        go_wp2_with (go_at_call 13; refine (hone _).mono ?_; rintro e w3 ⟨rfl, hw⟩; have hw := hw.symm; subst hw)
        go_ret
        exact ⟨rfl, below_drewN _ _ _⟩
      | true =>
        rw [ho] at hone
        have HO : Hid (oneLine vl.data.toList = true) := ho
        clear ho
        go_wp2_with (go_at_call 13; refine (hone _).mono ?_; rintro e w3 ⟨rfl, hw⟩; have hw := hw.symm; subst hw)
        have hc1 := clone_any pb nb cb lb (w.drewN q) (HA.out.1.up (below_drewN w q _)) (by omega)
        refine hc1.mono ?_
        rintro e w4 ⟨⟨pb', cb', rfl, sb⟩, hb4⟩
        have HB4 : Hid (Below w.heap.size w w4) := below_up (below_drewN w q _) hb4
        clear hc1 hb4 sb hone
        go_wp2_with fail
        have hc2 := clone_any pr nr cr raw w4 (HA.out.2.1.up HB4.out) (by omega)
        refine hc2.mono ?_
        rintro e w5 ⟨⟨pr', cr', rfl, sr⟩, hb5⟩
        have HB5 : Hid (Below w.heap.size w w5) := below_up HB4.out hb5
        have HSr : Hid (Sl w5 w5.heap.size pr' nr cr' raw) := sr
        clear hc2 hb5 sr HB4
        go_wp2_with fail
        have hc3 := cloneInts_any pi ni ci bs w5 (HA.out.2.2.1.up HB5.out) (by omega)
        refine hc3.mono ?_
        rintro e w6 ⟨⟨pi', ci', rfl, si⟩, hb6⟩
        have HB6 : Hid (Below w.heap.size w w6) := below_up HB5.out hb6
        have hzi := zzInsert_any st nm vl pb' pr' pi' nb cb' nr cr' ni ci' raw bs w6 (HSr.out.up hb6) si HG.out (by omega) (by omega) (by omega) (by omega) (by omega)
        clear hc3 hb6 si HSr HB5 HG
        go_wp2_with fail
        refine hzi.mono ?_
        rintro e w7 ⟨⟨a0, a1, p2, d2, p3, d3, A, bd, le, hle, hA, hbd, rfl, hsl, hsi⟩, hb7⟩
        have HB7 : Hid (Below w.heap.size w w7) := below_up HB6.out hb7
        obtain ⟨a2, bx, ox, rfl, hcut, hbx, hd2, sF, hcol, sN, sV⟩ := field_read hsl
        obtain ⟨F, hF⟩ : ∃ F, F = fieldOf nm.data.toList vl.data.toList le := ⟨_, rfl⟩
        have hFl : F.length = nm.size + 2 + vl.size + le.length := by
          rw [hF]
          unfold fieldOf
          rw [List.length_append, List.length_append, List.length_append]
          rfl
        rw [← hF] at hsl hsi hd2 sF sV ⊢
        have hll : le.length ≤ 2 := by rcases hle with h | h <;> rw [h] <;> decide
        have hAF : (A ++ F).length = A.length + F.length := List.length_append
        have hBn : (bd ++ [(A.length : Int)] ++ [((A ++ F).length : Int)]).length = bd.length + 2 := by rw [List.length_append, List.length_append]; rfl
        have r0 : (bd ++ [(A.length : Int)] ++ [((A ++ F).length : Int)])[bd.length]? = some (A.length : Int) := by
          rw [List.append_assoc, List.getElem?_append_right (Nat.le_refl _), Nat.sub_self]; rfl
        have r1 : (bd ++ [(A.length : Int)] ++ [((A ++ F).length : Int)])[bd.length + 1]? = some ((A ++ F).length : Int) := by
          rw [List.append_assoc, List.getElem?_append_right (Nat.le_succ _), show bd.length + 1 - bd.length = 1 from by omega]; rfl
        obtain ⟨b3, o3, hp3, hi3⟩ := hsi.1.2.2 (by omega)
        subst hp3
        have k0 : w7.cell? ⟨b3, o3 + bd.length, none⟩ = some (.int .i64 (A.length : Int)) := by
          rw [hi3 bd.length (by omega)]
          rw [List.getElem?_eq_getElem (by omega)] at r0
          rw [Option.some.inj r0]
        have k1 : w7.cell? ⟨b3, o3 + (bd.length + 1), none⟩ = some (.int .i64 ((A.length : Int) + (F.length : Int))) := by
          rw [hi3 (bd.length + 1) (by omega)]
          rw [List.getElem?_eq_getElem (by omega)] at r1
          rw [Option.some.inj r1, hAF]
          rfl
        rw [hBn, hAF]
        rw [hAF] at hd2
        obtain ⟨av, hav⟩ : ∃ av, av = A.length := ⟨_, rfl⟩
        obtain ⟨qv, hqv⟩ : ∃ qv, qv = bd.length := ⟨_, rfl⟩
        obtain ⟨Lv, hLv⟩ : ∃ Lv, Lv = F.length := ⟨_, rfl⟩
        rw [← hav] at k0 k1 hd2 hA hcut sF sN sV ⊢
        rw [← hqv] at k0 k1 hbd ⊢
        rw [← hLv] at k1 hd2 hFl sF sV ⊢
        have hcutA : ∀ W : World, (Instr.slice 22 (.slice (some a2) (av + Lv) d2) (some (.int .i64 (av : Int))) (some (.int .i64 ((av : Int) + (Lv : Int)))) none).run Tryd.prog W = .ok (.slice (some ⟨bx, ox, none⟩) Lv (d2 - av)) W := by
          intro W
          have := run_cut22 a2 (av + Lv) d2 (av : Int) ((av : Int) + (Lv : Int)) W (by omega) (by omega) (by omega)
          rw [Int.toNat_natCast, hcut, show ((av : Int) + (Lv : Int)).toNat - av = Lv from by omega] at this
          exact this
        have hcutN : ∀ W : World, (Instr.slice 22 (.slice (some ⟨bx, ox, none⟩) Lv (d2 - av)) none (some (.int .i64 (nm.size : Int))) none).run Tryd.prog W = .ok (.slice (some ⟨bx, ox, none⟩) nm.size (d2 - av)) W := by
          intro W
          have := run_to22 ⟨bx, ox, none⟩ Lv (d2 - av) (nm.size : Int) W (by omega) (by omega)
          rw [Int.toNat_natCast] at this
          exact this
        have hconv : (convert 22 9 (.slice (some ⟨bx, ox, none⟩) nm.size (d2 - av))).run Tryd.prog w7 = .ok (.string nm) w7 := sN.conv
        have hcutV : ∀ W : World, (Instr.slice 22 (.slice (some ⟨bx, ox, none⟩) Lv (d2 - av)) (some (.int .i64 ((nm.size : Int) + 1))) none none).run Tryd.prog W = .ok (.slice (some (cutA ⟨bx, ox, none⟩ (d2 - av) (nm.size + 1))) (Lv - (nm.size + 1)) (d2 - av - (nm.size + 1))) W := by
          intro W
          have := run_from22 ⟨bx, ox, none⟩ Lv (d2 - av) ((nm.size : Int) + 1) W (by omega) (by omega)
          rw [show ((nm.size : Int) + 1).toNat = nm.size + 1 from by omega] at this
          exact this
        have hcol' : w7.cell? ⟨bx, ox + nm.size, none⟩ = some (.int .u8 58) := hcol
        have hun := zzUnfold_any m _ _ _ _ w7 sV (by omega) (below_cell HB7.out HA.out.2.2.2)
        rw [unfold_value vl.data.toList le HO.out hle] at hun
        have hun' : Calls Tryd.prog 8 #[.slice (some (cutA ⟨bx, ox, none⟩ (d2 - av) (nm.size + 1))) (Lv - (nm.size + 1)) (d2 - av - (nm.size + 1))] w7 fun e w' => e = .returned (.string ⟨(Lib.trimS vl.data.toList Uf.blanks).toArray⟩) ∧ Below w7.heap.size w7 w' := hun
        have htr := fun W => trimTab_any vl W (by omega)
        generalize (⟨(Lib.trimS vl.data.toList Uf.blanks).toArray⟩ : ByteArray) = R at hun' htr
        have hLn : (nm.size : Int) + 1 ≤ (Lv : Int) := by omega
        have hLn2 : (nm.size : Int) < (Lv : Int) := by omega
        clear hun hcol hi3 r0 r1 hsl hsi hav hqv hLv hF hFl sF sN sV hcut hbx hAF hBn hzi HB6 hle hll hb7 HO HA
        go_wp2_with (first | (go_at_call 8; refine hun'.mono ?_; rintro e w8 ⟨rfl, hb8⟩) | (go_at_call 16; refine (htr _).mono ?_; rintro e w9 ⟨rfl, hw⟩; have hw := hw.symm; subst hw))
        go_ret
        exact ⟨rfl, below_up HB7.out hb8⟩
end Go.Proofs.Qxb6602839aDoor
