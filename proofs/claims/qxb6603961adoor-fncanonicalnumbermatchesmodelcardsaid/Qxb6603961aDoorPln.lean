/-
  Seat b6603961aD: the walk of plain.
-/
import Derived.Test.Qxb6603961aDoorSci
namespace Go.Proofs.Qxb6603961aDoor
open Go.Shelf Go.RowKit Nb

theorem BdM.below {w wr wx : World} {l : List UInt8} {m : Int} (h : BdM w l m wr) (hb : Below wr.heap.size wr wx) : BdM w l m wx := ⟨h.1.below hb, h.2⟩

set_option maxHeartbeats 4000000 in
theorem plain_any (n : Bool) (DS : ByteArray) (pt : Int) (w : World) (hD : (DS.size : Int) ≤ 2000000) (h1 : -100 ≤ pt) (h2 : pt ≤ 100) :
    Calls Tryd.prog 14 #[.bool n, .string DS, .int .i64 pt] w fun e w' => e = .returned (.string (ofl (plainT n (bl DS) pt))) ∧ Below w.heap.size w w' := by
  generalize hR : ofl (plainT n (bl DS) pt) = R
  have HR : Hid (ofl (plainT n (bl DS) pt) = R) := hR
  clear hR
  obtain ⟨N, hN⟩ : ∃ N : Nat, (DS.size : Int) + 23 = (N : Int) := ⟨DS.size + 23, by omega⟩
  have hg := gB w N (by omega)
  by_cases hA : pt ≤ 0
  · obtain ⟨k, hk⟩ : ∃ k : Nat, -pt = (k : Int) := ⟨(-pt).toNat, by omega⟩
    obtain ⟨ZR, hZR⟩ : ∃ ZR, ofl (List.replicate k 48) = ZR := ⟨_, rfl⟩
    have hrep := fun W => repeat_any k W (by omega)
    rw [hZR] at hrep
    have hZs : (ZR.size : Int) ≤ 100 := by
      rw [← hZR]
      show (((List.replicate k (48 : UInt8)).length : Nat) : Int) ≤ 100
      rw [List.length_replicate]
      omega
    have HF : Hid (R = ofl (sg n ++ 48 :: 46 :: (bl ZR ++ bl DS))) := by
      show R = _
      rw [← HR.out, ← hZR]
      unfold plainT plainB
      rw [if_pos hA, hk]
      rfl
    clear HR hZR
    have hz2 : ((⟨#[48, 46]⟩ : ByteArray).size : Int) = 2 := rfl
    cases n
    · go_enter Tryd.func14, Tryd.ntmps14
      go_upto_region 8 with (go_at_call 28; refine hg.mono ?_; rintro e w1 ⟨rfl, h1⟩)
      go_upto_region 9 with fail
      go_upto_region 10 with (go_at_call 30; refine (wS h1 ⟨#[48, 46]⟩ (by omega) (by decide)).mono ?_; rintro e w3 ⟨rfl, h3⟩)
      go_upto_region 11 with (first | (go_at_call 34; refine (hrep _).mono ?_; rintro e w4 ⟨rfl, hb4⟩; have h4 := BdM.below h3 hb4) | (go_at_call 30; refine (wS h4 ZR (by omega) (by omega)).mono ?_; rintro e w5 ⟨rfl, h5⟩))
      go_upto_region 15 with (go_at_call 30; refine (wS h5 DS (by omega) (by omega)).mono ?_; rintro e w6 ⟨rfl, h6⟩)
      go_wp2_with (go_at_call 31; refine (sB h6).mono ?_; rintro e w9 ⟨rfl, h9⟩)
      go_ret
      refine ⟨?_, h9⟩
      rw [HF.out]
      simp [sg]
      rfl
    · go_enter Tryd.func14, Tryd.ntmps14
      go_upto_region 4 with (go_at_call 28; refine hg.mono ?_; rintro e w1 ⟨rfl, h1⟩)
      go_upto_region 8 with (go_at_call 29; refine (wB h1 45 _ rfl (by omega)).mono ?_; rintro e w2 ⟨rfl, h2⟩)
      go_upto_region 9 with fail
      go_upto_region 10 with (go_at_call 30; refine (wS h2 ⟨#[48, 46]⟩ (by omega) (by decide)).mono ?_; rintro e w3 ⟨rfl, h3⟩)
      go_upto_region 11 with (first | (go_at_call 34; refine (hrep _).mono ?_; rintro e w4 ⟨rfl, hb4⟩; have h4 := BdM.below h3 hb4) | (go_at_call 30; refine (wS h4 ZR (by omega) (by omega)).mono ?_; rintro e w5 ⟨rfl, h5⟩))
      go_upto_region 15 with (go_at_call 30; refine (wS h5 DS (by omega) (by omega)).mono ?_; rintro e w6 ⟨rfl, h6⟩)
      go_wp2_with (go_at_call 31; refine (sB h6).mono ?_; rintro e w9 ⟨rfl, h9⟩)
      go_ret
      refine ⟨?_, h9⟩
      rw [HF.out]
      simp [sg]
      rfl
  · by_cases hB : pt ≥ (DS.size : Int)
    · obtain ⟨k, hk⟩ : ∃ k : Nat, pt - (DS.size : Int) = (k : Int) := ⟨(pt - (DS.size : Int)).toNat, by omega⟩
      obtain ⟨ZR, hZR⟩ : ∃ ZR, ofl (List.replicate k 48) = ZR := ⟨_, rfl⟩
      have hrep := fun W => repeat_any k W (by omega)
      rw [hZR] at hrep
      have hZs : (ZR.size : Int) ≤ 100 := by
        rw [← hZR]
        show (((List.replicate k (48 : UInt8)).length : Nat) : Int) ≤ 100
        rw [List.length_replicate]
        omega
      have HF : Hid (R = ofl (sg n ++ (bl DS ++ bl ZR))) := by
        show R = _
        rw [← HR.out, ← hZR]
        unfold plainT plainB
        rw [if_neg hA, if_pos (by rw [bl_len]; omega), bl_len, hk]
        rfl
      clear HR hZR
      cases n
      · go_enter Tryd.func14, Tryd.ntmps14
        go_upto_region 8 with (go_at_call 28; refine hg.mono ?_; rintro e w1 ⟨rfl, h1⟩)
        go_upto_region 12 with fail
        go_upto_region 13 with fail
        go_upto_region 14 with (go_at_call 30; refine (wS h1 DS (by omega) (by omega)).mono ?_; rintro e w3 ⟨rfl, h3⟩)
        go_upto_region 15 with (first | (go_at_call 34; refine (hrep _).mono ?_; rintro e w4 ⟨rfl, hb4⟩; have h4 := BdM.below h3 hb4) | (go_at_call 30; refine (wS h4 ZR (by omega) (by omega)).mono ?_; rintro e w5 ⟨rfl, h6⟩))
        go_wp2_with (go_at_call 31; refine (sB h6).mono ?_; rintro e w9 ⟨rfl, h9⟩)
        go_ret
        refine ⟨?_, h9⟩
        rw [HF.out]
        simp [sg]
      · go_enter Tryd.func14, Tryd.ntmps14
        go_upto_region 4 with (go_at_call 28; refine hg.mono ?_; rintro e w1 ⟨rfl, h1⟩)
        go_upto_region 8 with (go_at_call 29; refine (wB h1 45 _ rfl (by omega)).mono ?_; rintro e w2 ⟨rfl, h2⟩)
        go_upto_region 12 with fail
        go_upto_region 13 with fail
        go_upto_region 14 with (go_at_call 30; refine (wS h2 DS (by omega) (by omega)).mono ?_; rintro e w3 ⟨rfl, h3⟩)
        go_upto_region 15 with (first | (go_at_call 34; refine (hrep _).mono ?_; rintro e w4 ⟨rfl, hb4⟩; have h4 := BdM.below h3 hb4) | (go_at_call 30; refine (wS h4 ZR (by omega) (by omega)).mono ?_; rintro e w5 ⟨rfl, h6⟩))
        go_wp2_with (go_at_call 31; refine (sB h6).mono ?_; rintro e w9 ⟨rfl, h9⟩)
        go_ret
        refine ⟨?_, h9⟩
        rw [HF.out]
        simp [sg]
    · obtain ⟨k, hk⟩ : ∃ k : Nat, pt = (k : Int) := ⟨pt.toNat, by omega⟩
      subst hk
      have hkl : k ≤ DS.size := by omega
      obtain ⟨HD, hHD⟩ : ∃ HD, DS.extract 0 k = HD := ⟨_, rfl⟩
      obtain ⟨TL, hTL⟩ : ∃ TL, DS.extract k DS.size = TL := ⟨_, rfl⟩
      have EH : bl HD = (bl DS).take k := by rw [← hHD, bl_extract, sl_from_zero]
      have ET : bl TL = (bl DS).drop k := by rw [← hTL, bl_extract, ← bl_len, sl_to_end]
      have hHs : (HD.size : Int) ≤ 2000000 := by
        have := congrArg List.length EH
        rw [bl_len, List.length_take, bl_len] at this
        omega
      have hTs : (TL.size : Int) ≤ 2000000 := by
        have := congrArg List.length ET
        rw [bl_len, List.length_drop, bl_len] at this
        omega
      have HF : Hid (R = ofl (sg n ++ (bl HD ++ 46 :: bl TL))) := by
        show R = _
        rw [← HR.out, EH, ET]
        unfold plainT plainB
        rw [if_neg hA, if_neg (by rw [bl_len]; omega), Int.toNat_natCast]
      clear HR EH ET
      cases n
      · go_enter Tryd.func14, Tryd.ntmps14
        go_upto_region 8 with (go_at_call 28; refine hg.mono ?_; rintro e w1 ⟨rfl, h1⟩)
        go_upto_region 12 with fail
        go_upto_region 5 with fail
        go_upto_region 6 with (go_at_call 30; refine (wS h1 HD (by omega) (by omega)).mono ?_; rintro e w3 ⟨rfl, h3⟩)
        go_upto_region 7 with (go_at_call 29; refine (wB h3 46 _ rfl (by omega)).mono ?_; rintro e w4 ⟨rfl, h4⟩)
        go_upto_region 15 with (go_at_call 30; refine (wS h4 TL (by omega) (by omega)).mono ?_; rintro e w5 ⟨rfl, h6⟩)
        go_wp2_with (go_at_call 31; refine (sB h6).mono ?_; rintro e w9 ⟨rfl, h9⟩)
        go_ret
        refine ⟨?_, h9⟩
        rw [HF.out]
        simp [sg]
      · go_enter Tryd.func14, Tryd.ntmps14
        go_upto_region 4 with (go_at_call 28; refine hg.mono ?_; rintro e w1 ⟨rfl, h1⟩)
        go_upto_region 8 with (go_at_call 29; refine (wB h1 45 _ rfl (by omega)).mono ?_; rintro e w2 ⟨rfl, h2⟩)
        go_upto_region 12 with fail
        go_upto_region 5 with fail
        go_upto_region 6 with (go_at_call 30; refine (wS h2 HD (by omega) (by omega)).mono ?_; rintro e w3 ⟨rfl, h3⟩)
        go_upto_region 7 with (go_at_call 29; refine (wB h3 46 _ rfl (by omega)).mono ?_; rintro e w4 ⟨rfl, h4⟩)
        go_upto_region 15 with (go_at_call 30; refine (wS h4 TL (by omega) (by omega)).mono ?_; rintro e w5 ⟨rfl, h6⟩)
        go_wp2_with (go_at_call 31; refine (sB h6).mono ?_; rintro e w9 ⟨rfl, h9⟩)
        go_ret
        refine ⟨?_, h9⟩
        rw [HF.out]
        simp [sg]
end Go.Proofs.Qxb6603961aDoor
