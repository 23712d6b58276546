/-
  Seat b6603961aD: the walks of scientific and plain.
-/
import Derived.Test.Qxb6603961aDoorLb
namespace Go.Proofs.Qxb6603961aDoor
open Go.Shelf Go.RowKit Nb

def BdM (w : World) (l : List UInt8) (m : Int) (wr : World) : Prop := Bd w l wr ∧ (l.length : Int) ≤ m
theorem gB (w : World) (n : Nat) (hn : (n : Int) ≤ 281474976710656) :
    Calls Tryd.prog 28 #[.pointer (some ⟨w.heap.size, 0, none⟩), .int .i64 n] (w.alloc (.cells #[.pointer none, .slice none 0 0] 54)) fun e w' => e = .returned (.tuple #[]) ∧ BdM w [] 0 w' :=
  (grow_any w n hn).mono fun _ _ h => ⟨h.1, h.2, by decide⟩
theorem wB {w wr : World} {l : List UInt8} {m : Int} (h : BdM w l m wr) (c : UInt8) (v : Int) (hv : v = (c.toNat : Int)) (hm : m ≤ 1000000000) :
    Calls Tryd.prog 29 #[.pointer (some ⟨w.heap.size, 0, none⟩), .int .u8 v] wr fun e w' => e = .returned .nilIface ∧ BdM w (l ++ [c]) (m + 1) w' :=
  (writeByte_any w wr l v c hv h.1 (Int.le_trans h.2 hm)).mono fun _ _ h' => ⟨h'.1, h'.2, by have := h.2; rw [List.length_append, List.length_singleton]; omega⟩
theorem wS {w wr : World} {l : List UInt8} {m : Int} (h : BdM w l m wr) (s : ByteArray) (hm : m ≤ 1000000000) (hs : (s.size : Int) ≤ 1000000000) :
    Calls Tryd.prog 30 #[.pointer (some ⟨w.heap.size, 0, none⟩), .string s] wr fun e w' => e = .returned (.tuple #[.int .i64 s.size, .nilIface]) ∧ BdM w (l ++ bl s) (m + s.size) w' :=
  (writeString_any w wr l s h.1 (Int.le_trans h.2 hm) hs).mono fun _ _ h' => ⟨h'.1, h'.2, by have := h.2; rw [List.length_append, bl_len]; omega⟩
theorem sB {w wr : World} {l : List UInt8} {m : Int} (h : BdM w l m wr) :
    Calls Tryd.prog 31 #[.pointer (some ⟨w.heap.size, 0, none⟩)] wr fun e w' => e = .returned (.string (ofl l)) ∧ Below w.heap.size w w' := string_any w wr l h.1

theorem sciT_one (n : Bool) (DS EX : ByteArray) (h0 : 0 < DS.size) : sciT n (bl DS) (bl EX) = sg n ++ ([DS[0]] ++ ((if 1 < DS.size then 46 :: (bl DS).drop 1 else []) ++ 101 :: ((if (bl EX).head? = some 45 then [] else [43]) ++ bl EX))) := by
  have e1 : (bl DS).take 1 = [DS[0]] := by
    have := bl_drop DS 0 h0
    rw [List.drop_zero] at this
    rw [this]
    rfl
  unfold sciT
  rw [e1, bl_len]
theorem bl_tail (s : ByteArray) : bl (s.extract 1 s.size) = (bl s).drop 1 := by rw [bl_extract, ← bl_len, sl_to_end]

set_option maxHeartbeats 4000000 in
theorem scientific_any (n : Bool) (DS EX : ByteArray) (w : World) (h0 : 0 < DS.size) (hD : (DS.size : Int) ≤ 2000000) (hE : (EX.size : Int) ≤ 3000000) :
    Calls Tryd.prog 11 #[.bool n, .string DS, .string EX] w fun e w' => e = .returned (.string (ofl (sciT n (bl DS) (bl EX)))) ∧ Below w.heap.size w w' := by
  generalize hR : ofl (sciT n (bl DS) (bl EX)) = R
  have HR : Hid (ofl (sciT n (bl DS) (bl EX)) = R) := hR
  clear hR
  obtain ⟨N, hN⟩ : ∃ N : Nat, (DS.size : Int) + (EX.size : Int) + 4 = (N : Int) := ⟨DS.size + EX.size + 4, by omega⟩
  have hg := gB w N (by omega)
  have hp := fun W => hasPrefix_any EX 45 W
  obtain ⟨TL, hTL⟩ : ∃ TL, DS.extract 1 DS.size = TL := ⟨_, rfl⟩
  have HTL : Hid (bl TL = (bl DS).drop 1) := by show bl TL = (bl DS).drop 1; rw [← hTL, bl_tail]
  have hTs : (TL.size : Int) ≤ 2000000 := by
    have := congrArg List.length HTL.out
    rw [bl_len, List.length_drop, bl_len] at this
    omega
  have hone : 1 ≤ DS.size := h0
  by_cases hd1 : (DS.size : Int) > 1
  · by_cases hx : (bl EX).head? = some 45
    · rw [decide_eq_true hx] at hp
      have HF : Hid (R = ofl (sg n ++ ([DS[0]] ++ ((46 :: bl TL) ++ 101 :: ([] ++ bl EX))))) := by
        show R = _
        rw [← HR.out, sciT_one n DS EX h0, if_pos (by omega), if_pos hx, HTL.out]
      clear HR HTL hx
      cases n
      · go_enter Tryd.func11, Tryd.ntmps11
        go_upto_region 5 with (go_at_call 28; refine hg.mono ?_; rintro e w1 ⟨rfl, h1⟩)
        go_upto_region 6 with (go_at_call 29; refine (wB h1 DS[0] _ rfl (by omega)).mono ?_; rintro e w3 ⟨rfl, h3⟩)
        go_upto_region 7 with fail
        go_upto_region 8 with (go_at_call 29; refine (wB h3 46 _ rfl (by omega)).mono ?_; rintro e w4 ⟨rfl, h4⟩)
        go_upto_region 9 with (go_at_call 30; refine (wS h4 TL (by omega) (by omega)).mono ?_; rintro e w5 ⟨rfl, h5⟩)
        go_upto_region 10 with (go_at_call 29; refine (wB h5 101 _ rfl (by omega)).mono ?_; rintro e w6 ⟨rfl, h6⟩)
        go_upto_region 12 with (go_at_call 19; refine (hp _).mono ?_; rintro e wp ⟨rfl, hwp⟩; have hwp := hwp.symm; subst hwp)
        go_upto_region 13 with (go_at_call 30; refine (wS h6 EX (by omega) (by omega)).mono ?_; rintro e w8 ⟨rfl, h8⟩)
        go_wp2_with (go_at_call 31; refine (sB h8).mono ?_; rintro e w9 ⟨rfl, h9⟩)
        go_ret
        refine ⟨?_, h9⟩
        rw [HF.out]
        simp [sg]
      · go_enter Tryd.func11, Tryd.ntmps11
        go_upto_region 4 with (go_at_call 28; refine hg.mono ?_; rintro e w1 ⟨rfl, h1⟩)
        go_upto_region 5 with (go_at_call 29; refine (wB h1 45 _ rfl (by omega)).mono ?_; rintro e w2 ⟨rfl, h2⟩)
        go_upto_region 6 with (go_at_call 29; refine (wB h2 DS[0] _ rfl (by omega)).mono ?_; rintro e w3 ⟨rfl, h3⟩)
        go_upto_region 7 with fail
        go_upto_region 8 with (go_at_call 29; refine (wB h3 46 _ rfl (by omega)).mono ?_; rintro e w4 ⟨rfl, h4⟩)
        go_upto_region 9 with (go_at_call 30; refine (wS h4 TL (by omega) (by omega)).mono ?_; rintro e w5 ⟨rfl, h5⟩)
        go_upto_region 10 with (go_at_call 29; refine (wB h5 101 _ rfl (by omega)).mono ?_; rintro e w6 ⟨rfl, h6⟩)
        go_upto_region 12 with (go_at_call 19; refine (hp _).mono ?_; rintro e wp ⟨rfl, hwp⟩; have hwp := hwp.symm; subst hwp)
        go_upto_region 13 with (go_at_call 30; refine (wS h6 EX (by omega) (by omega)).mono ?_; rintro e w8 ⟨rfl, h8⟩)
        go_wp2_with (go_at_call 31; refine (sB h8).mono ?_; rintro e w9 ⟨rfl, h9⟩)
        go_ret
        refine ⟨?_, h9⟩
        rw [HF.out]
        simp [sg]
    · rw [decide_eq_false hx] at hp
      have HF : Hid (R = ofl (sg n ++ ([DS[0]] ++ ((46 :: bl TL) ++ 101 :: ([43] ++ bl EX))))) := by
        show R = _
        rw [← HR.out, sciT_one n DS EX h0, if_pos (by omega), if_neg hx, HTL.out]
      clear HR HTL hx
      cases n
      · go_enter Tryd.func11, Tryd.ntmps11
        go_upto_region 5 with (go_at_call 28; refine hg.mono ?_; rintro e w1 ⟨rfl, h1⟩)
        go_upto_region 6 with (go_at_call 29; refine (wB h1 DS[0] _ rfl (by omega)).mono ?_; rintro e w3 ⟨rfl, h3⟩)
        go_upto_region 7 with fail
        go_upto_region 8 with (go_at_call 29; refine (wB h3 46 _ rfl (by omega)).mono ?_; rintro e w4 ⟨rfl, h4⟩)
        go_upto_region 9 with (go_at_call 30; refine (wS h4 TL (by omega) (by omega)).mono ?_; rintro e w5 ⟨rfl, h5⟩)
        go_upto_region 10 with (go_at_call 29; refine (wB h5 101 _ rfl (by omega)).mono ?_; rintro e w6 ⟨rfl, h6⟩)
        go_upto_region 11 with (go_at_call 19; refine (hp _).mono ?_; rintro e wp ⟨rfl, hwp⟩; have hwp := hwp.symm; subst hwp)
        go_upto_region 12 with (go_at_call 29; refine (wB h6 43 _ rfl (by omega)).mono ?_; rintro e w7 ⟨rfl, h7⟩)
        go_upto_region 13 with (go_at_call 30; refine (wS h7 EX (by omega) (by omega)).mono ?_; rintro e w8 ⟨rfl, h8⟩)
        go_wp2_with (go_at_call 31; refine (sB h8).mono ?_; rintro e w9 ⟨rfl, h9⟩)
        go_ret
        refine ⟨?_, h9⟩
        rw [HF.out]
        simp [sg]
      · go_enter Tryd.func11, Tryd.ntmps11
        go_upto_region 4 with (go_at_call 28; refine hg.mono ?_; rintro e w1 ⟨rfl, h1⟩)
        go_upto_region 5 with (go_at_call 29; refine (wB h1 45 _ rfl (by omega)).mono ?_; rintro e w2 ⟨rfl, h2⟩)
        go_upto_region 6 with (go_at_call 29; refine (wB h2 DS[0] _ rfl (by omega)).mono ?_; rintro e w3 ⟨rfl, h3⟩)
        go_upto_region 7 with fail
        go_upto_region 8 with (go_at_call 29; refine (wB h3 46 _ rfl (by omega)).mono ?_; rintro e w4 ⟨rfl, h4⟩)
        go_upto_region 9 with (go_at_call 30; refine (wS h4 TL (by omega) (by omega)).mono ?_; rintro e w5 ⟨rfl, h5⟩)
        go_upto_region 10 with (go_at_call 29; refine (wB h5 101 _ rfl (by omega)).mono ?_; rintro e w6 ⟨rfl, h6⟩)
        go_upto_region 11 with (go_at_call 19; refine (hp _).mono ?_; rintro e wp ⟨rfl, hwp⟩; have hwp := hwp.symm; subst hwp)
        go_upto_region 12 with (go_at_call 29; refine (wB h6 43 _ rfl (by omega)).mono ?_; rintro e w7 ⟨rfl, h7⟩)
        go_upto_region 13 with (go_at_call 30; refine (wS h7 EX (by omega) (by omega)).mono ?_; rintro e w8 ⟨rfl, h8⟩)
        go_wp2_with (go_at_call 31; refine (sB h8).mono ?_; rintro e w9 ⟨rfl, h9⟩)
        go_ret
        refine ⟨?_, h9⟩
        rw [HF.out]
        simp [sg]
  · by_cases hx : (bl EX).head? = some 45
    · rw [decide_eq_true hx] at hp
      have HF : Hid (R = ofl (sg n ++ ([DS[0]] ++ (([]) ++ 101 :: ([] ++ bl EX))))) := by
        show R = _
        rw [← HR.out, sciT_one n DS EX h0, if_neg (by omega), if_pos hx]
      clear HR HTL hx
      cases n
      · go_enter Tryd.func11, Tryd.ntmps11
        go_upto_region 5 with (go_at_call 28; refine hg.mono ?_; rintro e w1 ⟨rfl, h1⟩)
        go_upto_region 6 with (go_at_call 29; refine (wB h1 DS[0] _ rfl (by omega)).mono ?_; rintro e w3 ⟨rfl, h3⟩)
        go_upto_region 9 with fail
        go_upto_region 10 with (go_at_call 29; refine (wB h3 101 _ rfl (by omega)).mono ?_; rintro e w6 ⟨rfl, h6⟩)
        go_upto_region 12 with (go_at_call 19; refine (hp _).mono ?_; rintro e wp ⟨rfl, hwp⟩; have hwp := hwp.symm; subst hwp)
        go_upto_region 13 with (go_at_call 30; refine (wS h6 EX (by omega) (by omega)).mono ?_; rintro e w8 ⟨rfl, h8⟩)
        go_wp2_with (go_at_call 31; refine (sB h8).mono ?_; rintro e w9 ⟨rfl, h9⟩)
        go_ret
        refine ⟨?_, h9⟩
        rw [HF.out]
        simp [sg]
      · go_enter Tryd.func11, Tryd.ntmps11
        go_upto_region 4 with (go_at_call 28; refine hg.mono ?_; rintro e w1 ⟨rfl, h1⟩)
        go_upto_region 5 with (go_at_call 29; refine (wB h1 45 _ rfl (by omega)).mono ?_; rintro e w2 ⟨rfl, h2⟩)
        go_upto_region 6 with (go_at_call 29; refine (wB h2 DS[0] _ rfl (by omega)).mono ?_; rintro e w3 ⟨rfl, h3⟩)
        go_upto_region 9 with fail
        go_upto_region 10 with (go_at_call 29; refine (wB h3 101 _ rfl (by omega)).mono ?_; rintro e w6 ⟨rfl, h6⟩)
        go_upto_region 12 with (go_at_call 19; refine (hp _).mono ?_; rintro e wp ⟨rfl, hwp⟩; have hwp := hwp.symm; subst hwp)
        go_upto_region 13 with (go_at_call 30; refine (wS h6 EX (by omega) (by omega)).mono ?_; rintro e w8 ⟨rfl, h8⟩)
        go_wp2_with (go_at_call 31; refine (sB h8).mono ?_; rintro e w9 ⟨rfl, h9⟩)
        go_ret
        refine ⟨?_, h9⟩
        rw [HF.out]
        simp [sg]
    · rw [decide_eq_false hx] at hp
      have HF : Hid (R = ofl (sg n ++ ([DS[0]] ++ (([]) ++ 101 :: ([43] ++ bl EX))))) := by
        show R = _
        rw [← HR.out, sciT_one n DS EX h0, if_neg (by omega), if_neg hx]
      clear HR HTL hx
      cases n
      · go_enter Tryd.func11, Tryd.ntmps11
        go_upto_region 5 with (go_at_call 28; refine hg.mono ?_; rintro e w1 ⟨rfl, h1⟩)
        go_upto_region 6 with (go_at_call 29; refine (wB h1 DS[0] _ rfl (by omega)).mono ?_; rintro e w3 ⟨rfl, h3⟩)
        go_upto_region 9 with fail
        go_upto_region 10 with (go_at_call 29; refine (wB h3 101 _ rfl (by omega)).mono ?_; rintro e w6 ⟨rfl, h6⟩)
        go_upto_region 11 with (go_at_call 19; refine (hp _).mono ?_; rintro e wp ⟨rfl, hwp⟩; have hwp := hwp.symm; subst hwp)
        go_upto_region 12 with (go_at_call 29; refine (wB h6 43 _ rfl (by omega)).mono ?_; rintro e w7 ⟨rfl, h7⟩)
        go_upto_region 13 with (go_at_call 30; refine (wS h7 EX (by omega) (by omega)).mono ?_; rintro e w8 ⟨rfl, h8⟩)
        go_wp2_with (go_at_call 31; refine (sB h8).mono ?_; rintro e w9 ⟨rfl, h9⟩)
        go_ret
        refine ⟨?_, h9⟩
        rw [HF.out]
        simp [sg]
      · go_enter Tryd.func11, Tryd.ntmps11
        go_upto_region 4 with (go_at_call 28; refine hg.mono ?_; rintro e w1 ⟨rfl, h1⟩)
        go_upto_region 5 with (go_at_call 29; refine (wB h1 45 _ rfl (by omega)).mono ?_; rintro e w2 ⟨rfl, h2⟩)
        go_upto_region 6 with (go_at_call 29; refine (wB h2 DS[0] _ rfl (by omega)).mono ?_; rintro e w3 ⟨rfl, h3⟩)
        go_upto_region 9 with fail
        go_upto_region 10 with (go_at_call 29; refine (wB h3 101 _ rfl (by omega)).mono ?_; rintro e w6 ⟨rfl, h6⟩)
        go_upto_region 11 with (go_at_call 19; refine (hp _).mono ?_; rintro e wp ⟨rfl, hwp⟩; have hwp := hwp.symm; subst hwp)
        go_upto_region 12 with (go_at_call 29; refine (wB h6 43 _ rfl (by omega)).mono ?_; rintro e w7 ⟨rfl, h7⟩)
        go_upto_region 13 with (go_at_call 30; refine (wS h7 EX (by omega) (by omega)).mono ?_; rintro e w8 ⟨rfl, h8⟩)
        go_wp2_with (go_at_call 31; refine (sB h8).mono ?_; rintro e w9 ⟨rfl, h9⟩)
        go_ret
        refine ⟨?_, h9⟩
        rw [HF.out]
        simp [sg]
end Go.Proofs.Qxb6603961aDoor
