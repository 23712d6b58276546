/-
  Seat b6603961aD: the walk of scanNumber (strict).
-/
import Derived.Test.Qxb6603961aDoorLb
import Derived.Deep.RegionWith
namespace Go.Proofs.Qxb6603961aDoor
open Go.Shelf Go.RowKit Nb

abbrev numO (n : Bool) (a f : ByteArray) (en : Bool) (x : ByteArray) : Obj := .cells #[.bool n, .string a, .string f, .bool en, .string x] 26 (0, 0)
abbrev e0 : ByteArray := ⟨#[]⟩
/-- The result's cell and the local number, two blocks of the call's own. -/
def NumW (w : World) (n : Bool) (a f : ByteArray) (en : Bool) (x : ByteArray) (wr : World) : Prop :=
  Below w.heap.size w wr ∧ wr.heap[w.heap.size]? = some (numO false e0 e0 false e0) ∧ wr.heap[w.heap.size + 1]? = some (numO n a f en x)
theorem NumW.start (w : World) : NumW w false e0 e0 false e0 ((w.alloc (numO false e0 e0 false e0)).alloc (numO false e0 e0 false e0)) := by
  have h1 := lit_below w (numO false e0 e0 false e0)
  have h2 := lit_below (w.alloc (numO false e0 e0 false e0)) (numO false e0 e0 false e0)
  have n1 := new_block w (numO false e0 e0 false e0)
  have n2 := new_block (w.alloc (numO false e0 e0 false e0)) (numO false e0 e0 false e0)
  have es : (w.alloc (numO false e0 e0 false e0)).heap.size = w.heap.size + 1 := by simp
  rw [es] at n2
  refine ⟨below_up h1 h2, ?_, n2⟩
  rw [h2.block w.heap.size (by rw [es]; omega)]
  exact n1
theorem set_same {w : World} {g j : Nat} {cur : Array Value} {T : TypeId} {v : Value} (h : w.heap[g]? = some (.cells cur T (0, 0))) : (w.setCell ⟨g, j, none⟩ v).heap[g]? = some (.cells (cur.setIfInBounds j v) T (0, 0)) := by
  simp [World.setCell, Array.getElem?_modify, h]
theorem set_other {w : World} {g j b : Nat} {v : Value} (h : b ≠ g) : (w.setCell ⟨g, j, none⟩ v).heap[b]? = w.heap[b]? := Below.heap_setCell w ⟨g, j, none⟩ v b h
section
variable {w wr : World} {n : Bool} {a f : ByteArray} {en : Bool} {x : ByteArray}
theorem NumW.set0 (h : NumW w n a f en x wr) (m : Bool) : NumW w m a f en x (wr.setCell ⟨w.heap.size + 1, 0, none⟩ (.bool m)) :=
  ⟨h.1.setCell (by show _ ≤ w.heap.size + 1; omega) _, (set_other (by omega)).trans h.2.1, set_same h.2.2⟩
theorem NumW.set1 (h : NumW w n a f en x wr) (m : ByteArray) : NumW w n m f en x (wr.setCell ⟨w.heap.size + 1, 1, none⟩ (.string m)) :=
  ⟨h.1.setCell (by show _ ≤ w.heap.size + 1; omega) _, (set_other (by omega)).trans h.2.1, set_same h.2.2⟩
theorem NumW.set2 (h : NumW w n a f en x wr) (m : ByteArray) : NumW w n a m en x (wr.setCell ⟨w.heap.size + 1, 2, none⟩ (.string m)) :=
  ⟨h.1.setCell (by show _ ≤ w.heap.size + 1; omega) _, (set_other (by omega)).trans h.2.1, set_same h.2.2⟩
theorem NumW.set3 (h : NumW w n a f en x wr) (m : Bool) : NumW w n a f m x (wr.setCell ⟨w.heap.size + 1, 3, none⟩ (.bool m)) :=
  ⟨h.1.setCell (by show _ ≤ w.heap.size + 1; omega) _, (set_other (by omega)).trans h.2.1, set_same h.2.2⟩
theorem NumW.set4 (h : NumW w n a f en x wr) (m : ByteArray) : NumW w n a f en m (wr.setCell ⟨w.heap.size + 1, 4, none⟩ (.string m)) :=
  ⟨h.1.setCell (by show _ ≤ w.heap.size + 1; omega) _, (set_other (by omega)).trans h.2.1, set_same h.2.2⟩
theorem NumW.drewN (h : NumW w n a f en x wr) (q : Nat) : NumW w n a f en x (wr.drewN q) := ⟨below_dN h.1 q, h.2⟩
theorem NumW.drew (h : NumW w n a f en x wr) : NumW w n a f en x wr.drew := ⟨h.1.drew, h.2⟩
theorem NumW.cells (h : NumW w n a f en x wr) : wr.cell? ⟨w.heap.size + 1, 0, none⟩ = some (.bool n) ∧ wr.cell? ⟨w.heap.size + 1, 1, none⟩ = some (.string a) ∧ wr.cell? ⟨w.heap.size + 1, 2, none⟩ = some (.string f) ∧ wr.cell? ⟨w.heap.size + 1, 3, none⟩ = some (.bool en) ∧ wr.cell? ⟨w.heap.size + 1, 4, none⟩ = some (.string x) ∧ ∀ j, wr.frozen? ⟨w.heap.size + 1, j, none⟩ = false :=
  ⟨by rw [Lib.cell_of_heap h.2.2]; rfl, by rw [Lib.cell_of_heap h.2.2]; rfl, by rw [Lib.cell_of_heap h.2.2]; rfl, by rw [Lib.cell_of_heap h.2.2]; rfl, by rw [Lib.cell_of_heap h.2.2]; rfl, fun j => Lib.frozen_of_heap h.2.2 j⟩
theorem NumW.res (h : NumW w n a f en x wr) : wr.cell? ⟨w.heap.size, 0, none⟩ = some (.bool false) ∧ wr.cell? ⟨w.heap.size, 1, none⟩ = some (.string e0) ∧ wr.cell? ⟨w.heap.size, 2, none⟩ = some (.string e0) ∧ wr.cell? ⟨w.heap.size, 3, none⟩ = some (.bool false) ∧ wr.cell? ⟨w.heap.size, 4, none⟩ = some (.string e0) ∧ ∀ j, wr.frozen? ⟨w.heap.size, j, none⟩ = false :=
  ⟨by rw [Lib.cell_of_heap h.2.1]; rfl, by rw [Lib.cell_of_heap h.2.1]; rfl, by rw [Lib.cell_of_heap h.2.1]; rfl, by rw [Lib.cell_of_heap h.2.1]; rfl, by rw [Lib.cell_of_heap h.2.1]; rfl, fun j => Lib.frozen_of_heap h.2.1 j⟩
/-- The result's five cells written. -/
theorem NumW.put (h : NumW w n a f en x wr) (n' : Bool) (a' f' : ByteArray) (en' : Bool) (x' : ByteArray) {wf : World} (hf : wf = ((((wr.setCell ⟨w.heap.size, 0, none⟩ (.bool n')).setCell ⟨w.heap.size, 1, none⟩ (.string a')).setCell ⟨w.heap.size, 2, none⟩ (.string f')).setCell ⟨w.heap.size, 3, none⟩ (.bool en')).setCell ⟨w.heap.size, 4, none⟩ (.string x')) :
    (wf.cell? ⟨w.heap.size, 0, none⟩ = some (.bool n') ∧ wf.cell? ⟨w.heap.size, 1, none⟩ = some (.string a') ∧ wf.cell? ⟨w.heap.size, 2, none⟩ = some (.string f') ∧ wf.cell? ⟨w.heap.size, 3, none⟩ = some (.bool en') ∧ wf.cell? ⟨w.heap.size, 4, none⟩ = some (.string x')) ∧ Below w.heap.size w wf := by
  have hb : wf.heap[w.heap.size]? = some (numO n' a' f' en' x') := by
    rw [hf]
    exact set_same (set_same (set_same (set_same (set_same h.2.1))))
  refine ⟨⟨by rw [Lib.cell_of_heap hb]; rfl, by rw [Lib.cell_of_heap hb]; rfl, by rw [Lib.cell_of_heap hb]; rfl, by rw [Lib.cell_of_heap hb]; rfl, by rw [Lib.cell_of_heap hb]; rfl⟩, ?_⟩
  rw [hf]
  have r := Nat.le_refl w.heap.size
  exact ((((h.1.setCell r _).setCell r _).setCell r _).setCell r _).setCell r _
end
def NumPost (r : Option Parts) (e : Ending) : Prop := ∃ n a f en x ok, e = .returned (.tuple #[.agg #[.bool n, .string a, .string f, .bool en, .string x], .bool ok]) ∧ ((ok = true ∧ r = some (n, bl a, bl f, en, bl x)) ∨ (ok = false ∧ r = none))
theorem NumPost.none {r : Option Parts} (h : r = Option.none) (n : Bool) (a f : ByteArray) (en : Bool) (x : ByteArray) : NumPost r (.returned (.tuple #[.agg #[.bool n, .string a, .string f, .bool en, .string x], .bool false])) := ⟨n, a, f, en, x, false, rfl, Or.inr ⟨rfl, h⟩⟩
theorem NumPost.some {r : Option Parts} {n : Bool} {a f : ByteArray} {en : Bool} {x : ByteArray} (h : r = Option.some (n, bl a, bl f, en, bl x)) : NumPost r (.returned (.tuple #[.agg #[.bool n, .string a, .string f, .bool en, .string x], .bool true])) := ⟨n, a, f, en, x, true, rfl, Or.inl ⟨rfl, h⟩⟩
theorem head_zero (s : ByteArray) (c : UInt8) (h : (bl s).head? = some c) : ∃ h0 : 0 < s.size, s[0] = c := by
  have h0 : 0 < s.size := by
    rcases Nat.eq_zero_or_pos s.size with e | e
    · have : bl s = [] := List.eq_nil_of_length_eq_zero e
      rw [this] at h
      cases h
    · exact e
  refine ⟨h0, ?_⟩
  have := bl_drop s 0 h0
  rw [List.drop_zero] at this
  rw [this] at h
  exact Option.some.inj h
theorem bl_tail1 (s : ByteArray) : bl (s.extract 1 s.size) = (bl s).tail := by rw [bl_extract, ← bl_len, sl_to_end, List.drop_one]
theorem bl_take (s : ByteArray) (k : Nat) : bl (s.extract 0 k) = (bl s).take k := by rw [bl_extract, sl_from_zero]
theorem bl_from (s : ByteArray) (k : Nat) : bl (s.extract k s.size) = (bl s).drop k := by rw [bl_extract, ← bl_len, sl_to_end]

set_option maxHeartbeats 40000000 in
set_option maxRecDepth 50000 in
theorem scanNumber_any (s : ByteArray) (w : World) (hs : (s.size : Int) ≤ 1048576) :
    Calls Tryd.prog 7 #[.string s, .bool false] w fun e w' => NumPost (scan (bl s)) e ∧ Below w.heap.size w w' := by
  obtain ⟨r, hr⟩ : ∃ r, scan (bl s) = r := ⟨_, rfl⟩
  rw [hr]
  have HR : Hid (scan (bl s) = r) := hr
  clear hr
  have hp := fun W => hasPrefix_any s 45 W
  obtain ⟨TL, hTL⟩ : ∃ TL, s.extract 1 s.size = TL := ⟨_, rfl⟩
  have HTL : Hid (bl TL = (bl s).tail) := by show bl TL = (bl s).tail; rw [← hTL, bl_tail1]
  have hTs : (TL.size : Int) ≤ 1048576 := by
    have := congrArg List.length HTL.out
    rw [bl_len, List.length_tail, bl_len] at this
    omega
  obtain ⟨B0, hB0⟩ : ∃ B0 : Bool, decide ((bl s).head? = some 45) = B0 := ⟨_, rfl⟩
  rw [hB0] at hp
  have HB0 : Hid (decide ((bl s).head? = some 45) = B0) := hB0
  clear hB0
  have HW0 := NumW.start w
  have HWx : Hid (NumW w false e0 e0 false e0 ((w.alloc (numO false e0 e0 false e0)).alloc (numO false e0 e0 false e0))) := HW0
  clear HW0
  go_enter Tryd.func7, Tryd.ntmps7
  go_upto_region 3 with fail
  go_cut [18] (fun s18 wx => s18 = .bool B0 ∧ Hid (NumW w false e0 e0 false e0 wx))
  case first =>
    cases B0 <;>
    · go_wp2_with (go_at_call 19; refine (hp _).mono ?_; rintro e wp ⟨rfl, hwp⟩; have hwp := hwp.symm; subst hwp)
      go_meet
      exact ⟨rfl, HWx.out⟩
  case rest =>
  clear HWx hp
  obtain ⟨rfl, HWx⟩ := hcut
  obtain ⟨wB, hwB⟩ : ∃ wB, wB = wc := ⟨_, rfl⟩
  subst hwB
  obtain ⟨c0, -, -, -, -, cf⟩ := HWx.out.cells
  have cf0 := cf 0
  clear cf
  go_upto_if 18 with fail
  go_cut [7] (fun s7 wx => ∃ (S : ByteArray) (n : Bool), s7 = .string S ∧ (S.size : Int) ≤ 1048576 ∧ Hid (r = scanI n (bl S)) ∧ Hid (NumW w n e0 e0 false e0 wx))
  case first =>
    cases B0 with
    | false =>
      have HS : Hid (r = scanI false (bl s)) := by
        show r = _
        rw [← HR.out]
        unfold scan
        rw [if_neg (of_decide_eq_false HB0.out)]
      go_wp2
      go_meet
      exact ⟨s, false, rfl, hs, HS, HWx.out⟩
    | true =>
      have HS : Hid (r = scanI true (bl TL)) := by
        show r = _
        rw [← HR.out, HTL.out]
        unfold scan
        rw [if_pos (of_decide_eq_true HB0.out)]
      obtain ⟨h0, h45⟩ := head_zero s 45 (of_decide_eq_true HB0.out)
      have hx0 : (s[0].toNat : Int) = 45 := by rw [h45]; rfl
      have hone : 1 ≤ s.size := h0
      clear h45
      go_wp2
      go_meet
      exact ⟨TL, true, rfl, hTs, HS, HWx.out.set0 true⟩
  case rest =>
    clear HWx hTL HTL hTs HB0 HR c0 cf0
    obtain ⟨S, n, rfl, hS, HS, HW⟩ := hcut
    obtain ⟨wA, hwA⟩ : ∃ wA, wA = wc := ⟨_, rfl⟩
    subst hwA
    have hdr := fun W => digitRun_any S W (by omega)
    obtain ⟨k, hk⟩ : ∃ k : Nat, run (bl S) = k := ⟨_, rfl⟩
    rw [hk] at hdr
    have HK : Hid (run (bl S) = k) := hk
    have hkl : k ≤ S.size := by rw [← hk]; exact run_le (bl S)
    clear hk
    obtain ⟨c0, c1, c2, c3, c4, cf⟩ := HW.out.cells
    obtain ⟨r0, r1, r2, r3, r4, rf⟩ := HW.out.res
    by_cases k0 : k = 0
    · subst k0
      have HN : Hid (r = none) := by
        show r = none
        rw [HS.out]
        unfold scanI
        rw [HK.out, if_pos (Or.inl rfl)]
      go_wp2_with (go_at_call 20; refine (hdr _).mono ?_; rintro e wp ⟨rfl, hwp⟩; have hwp := hwp.symm; subst hwp)
      obtain ⟨wf, hwf⟩ : ∃ wf, wf = ((((wA.setCell ⟨w.heap.size, 0, none⟩ (.bool false)).setCell ⟨w.heap.size, 1, none⟩ (.string e0)).setCell ⟨w.heap.size, 2, none⟩ (.string e0)).setCell ⟨w.heap.size, 3, none⟩ (.bool false)).setCell ⟨w.heap.size, 4, none⟩ (.string e0) := ⟨_, rfl⟩
      obtain ⟨⟨f0, f1, f2, f3, f4⟩, hbel⟩ := HW.out.put false e0 e0 false e0 hwf
      rw [← hwf]
      clear hwf
      refine bodyPost_ret (v := .tuple #[.agg #[.bool false, .string e0, .string e0, .bool false, .string e0], .bool false]) (by simp [results, Tryd.results7, go_sem, f0, f1, f2, f3, f4]) rfl ⟨NumPost.none HN.out _ _ _ _ _, hbel⟩
    have k0b : ((k : Int) == 0) = false := beq_eq_false_iff_ne.2 (by omega)
    have hS0 : 0 < S.size := by omega
    by_cases kz : 1 < k ∧ S[0] = 48
    · have HN : Hid (r = none) := by
        show r = none
        rw [HS.out]
        unfold scanI
        rw [HK.out, if_pos (Or.inr ⟨kz.1, by have h := bl_drop S 0 hS0; rw [List.drop_zero] at h; rw [h, kz.2]; rfl⟩)]
      have k1 : (1 : Int) < (k : Int) := by have := kz.1; omega
      have hx0 : (S[0].toNat : Int) = 48 := by rw [kz.2]; rfl
      clear kz
      go_wp2_with (go_at_call 20; refine (hdr _).mono ?_; rintro e wp ⟨rfl, hwp⟩; have hwp := hwp.symm; subst hwp)
      obtain ⟨wf, hwf⟩ : ∃ wf, wf = ((((wA.setCell ⟨w.heap.size, 0, none⟩ (.bool false)).setCell ⟨w.heap.size, 1, none⟩ (.string e0)).setCell ⟨w.heap.size, 2, none⟩ (.string e0)).setCell ⟨w.heap.size, 3, none⟩ (.bool false)).setCell ⟨w.heap.size, 4, none⟩ (.string e0) := ⟨_, rfl⟩
      obtain ⟨⟨f0, f1, f2, f3, f4⟩, hbel⟩ := HW.out.put false e0 e0 false e0 hwf
      rw [← hwf]
      clear hwf
      refine bodyPost_ret (v := .tuple #[.agg #[.bool false, .string e0, .string e0, .bool false, .string e0], .bool false]) (by simp [results, Tryd.results7, go_sem, f0, f1, f2, f3, f4]) rfl ⟨NumPost.none HN.out _ _ _ _ _, hbel⟩
    obtain ⟨A, hA⟩ : ∃ A, S.extract 0 k = A := ⟨_, rfl⟩
    obtain ⟨S2, hS2⟩ : ∃ S2, S.extract k S.size = S2 := ⟨_, rfl⟩
    have HF : Hid (r = scanF n (bl A) (bl S2)) := by
      show r = _
      rw [HS.out, ← hA, ← hS2, bl_take, bl_from]
      unfold scanI
      rw [HK.out, if_neg]
      rintro (h | ⟨h1, h2⟩)
      · exact k0 h
      · obtain ⟨h0, h48⟩ := head_zero S 48 h2
        exact kz ⟨h1, h48⟩
    have hS2s : (S2.size : Int) ≤ 1048576 := by
      have := congrArg List.length (bl_from S k)
      rw [hS2, bl_len, List.length_drop, bl_len] at this
      omega
    have HA : Hid (A = A) := rfl
    go_upto_region 7 with (go_at_call 20; refine (hdr _).mono ?_; rintro e wp ⟨rfl, hwp⟩; have hwp := hwp.symm; subst hwp)
    go_cut [41] (fun s41 wx => s41 = .bool false ∧ wx = wA)
    case first =>
      by_cases k1 : (1 : Int) < (k : Int)
      · have hx0 : ((S[0].toNat : Int) == 48) = false := beq_eq_false_iff_ne.2 (fun e => kz ⟨by omega, by apply UInt8.toNat_inj.1; show S[0].toNat = 48; omega⟩)
        clear kz
        go_wp2
        go_meet
        exact ⟨rfl, rfl⟩
      · have k1' : decide ((1 : Int) < (k : Int)) = false := decide_eq_false k1
        clear kz
        go_wp2
        go_meet
        exact ⟨rfl, rfl⟩
    case rest =>
    clear kz
    obtain ⟨rfl, hw⟩ := hcut
    have hw := hw.symm
    subst hw
    go_upto_region 9 with fail
    go_cut [7] (fun s7 wx => s7 = .string S2 ∧ Hid (NumW w n A e0 false e0 wx))
    case first =>
      have cf1 := cf 1
      have HW1 : Hid (∀ q, NumW w n A e0 false e0 ((wA.drewN q).setCell ⟨w.heap.size + 1, 1, none⟩ (.string A))) := fun q => (HW.out.drewN q).set1 A
      have HW2 : Hid (NumW w n A e0 false e0 (wA.drew.setCell ⟨w.heap.size + 1, 1, none⟩ (.string A))) := HW.out.drew.set1 A
      go_region
      all_goals (try go_wp2)
      all_goals go_meet
      all_goals (first | exact ⟨rfl, HW2.out⟩ | exact ⟨rfl, HW1.out _⟩)
    case rest =>
    clear c0 c1 c2 c3 c4 cf r0 r1 r2 r3 r4 rf HW HS HK hdr k0 k0b hkl
    obtain ⟨rfl, HW⟩ := hcut
    obtain ⟨wC, hwC⟩ : ∃ wC, wC = wc := ⟨_, rfl⟩
    subst hwC
    have hp2 := fun W => hasPrefix_any S2 46 W
    obtain ⟨B1, hB1⟩ : ∃ B1 : Bool, decide ((bl S2).head? = some 46) = B1 := ⟨_, rfl⟩
    rw [hB1] at hp2
    have HB1 : Hid (decide ((bl S2).head? = some 46) = B1) := hB1
    clear hB1 hA hS2
    go_upto_if 51 with (go_at_call 19; refine (hp2 _).mono ?_; rintro e wp ⟨rfl, hwp⟩; have hwp := hwp.symm; subst hwp)
    go_cut [7, 8] (fun s7 _ wx => ∃ (S3 F : ByteArray), s7 = .string S3 ∧ (S3.size : Int) ≤ 1048576 ∧ Hid (r = scanE n (bl A) (bl F) (bl S3)) ∧ Hid (NumW w n A F false e0 wx))
    case first =>
      obtain ⟨c0, c1, c2, c3, c4, cf⟩ := HW.out.cells
      obtain ⟨r0, r1, r2, r3, r4, rf⟩ := HW.out.res
      cases B1 with
      | false =>
        have HS : Hid (r = scanE n (bl A) (bl e0) (bl S2)) := by
          show r = _
          rw [HF.out]
          unfold scanF
          rw [if_neg (of_decide_eq_false HB1.out)]
        go_wp2
        go_meet
        exact ⟨S2, e0, rfl, hS2s, HS, HW.out⟩
      | true =>
        obtain ⟨h0, -⟩ := head_zero S2 46 (of_decide_eq_true HB1.out)
        have hone : 1 ≤ S2.size := h0
        obtain ⟨T, hT⟩ : ∃ T, S2.extract 1 S2.size = T := ⟨_, rfl⟩
        have HT : Hid (bl T = (bl S2).tail) := by show bl T = (bl S2).tail; rw [← hT, bl_tail1]
        have HP : Hid (r = scanP n (bl A) (bl T)) := by
          show r = _
          rw [HF.out, HT.out]
          unfold scanF
          rw [if_pos (of_decide_eq_true HB1.out)]
        have hTs : T.size + 1 = S2.size := by
          have := congrArg List.length HT.out
          rw [bl_len, List.length_tail, bl_len] at this
          omega
        have hdr := fun W => digitRun_any T W (by omega)
        obtain ⟨k2, hk2⟩ : ∃ k2 : Nat, run (bl T) = k2 := ⟨_, rfl⟩
        rw [hk2] at hdr
        have HK : Hid (run (bl T) = k2) := hk2
        have hkl : k2 ≤ T.size := by rw [← hk2]; exact run_le (bl T)
        clear hk2
        by_cases k0 : k2 = 0
        · subst k0
          have HN : Hid (r = none) := by
            show r = none
            rw [HP.out]
            unfold scanP
            rw [HK.out, if_pos rfl]
          go_wp2_with (go_at_call 20; refine (hdr _).mono ?_; rintro e wp ⟨rfl, hwp⟩; have hwp := hwp.symm; subst hwp)
          obtain ⟨wf, hwf⟩ : ∃ wf, wf = ((((wC.setCell ⟨w.heap.size, 0, none⟩ (.bool false)).setCell ⟨w.heap.size, 1, none⟩ (.string e0)).setCell ⟨w.heap.size, 2, none⟩ (.string e0)).setCell ⟨w.heap.size, 3, none⟩ (.bool false)).setCell ⟨w.heap.size, 4, none⟩ (.string e0) := ⟨_, rfl⟩
          obtain ⟨⟨f0, f1, f2, f3, f4⟩, hbel⟩ := HW.out.put false e0 e0 false e0 hwf
          rw [← hwf]
          clear hwf
          refine bodyPost_ret (v := .tuple #[.agg #[.bool false, .string e0, .string e0, .bool false, .string e0], .bool false]) (by simp [results, Tryd.results7, go_sem, f0, f1, f2, f3, f4]) rfl ⟨NumPost.none HN.out _ _ _ _ _, hbel⟩
        · have k0b : ((k2 : Int) == 0) = false := beq_eq_false_iff_ne.2 (by omega)
          obtain ⟨k3, hk3⟩ : ∃ k3 : Nat, (1 : Int) + (k2 : Int) = (k3 : Int) := ⟨k2 + 1, by omega⟩
          have hk3a : k3 = k2 + 1 := by omega
          have hk3l : k3 ≤ S2.size := by omega
          have hk3o : 1 ≤ k3 := by omega
          obtain ⟨F, hF⟩ : ∃ F, S2.extract 1 k3 = F := ⟨_, rfl⟩
          obtain ⟨S3, hS3⟩ : ∃ S3, S2.extract k3 S2.size = S3 := ⟨_, rfl⟩
          have EF : bl F = (bl T).take k2 := by
            rw [← hF, bl_extract, HT.out]
            unfold sl
            rw [List.drop_one, hk3a, Nat.add_sub_cancel]
          have E3 : bl S3 = (bl T).drop k2 := by
            rw [← hS3, bl_from, HT.out, hk3a, List.drop_tail]
          have HS : Hid (r = scanE n (bl A) (bl F) (bl S3)) := by
            show r = _
            rw [HP.out, EF, E3]
            unfold scanP
            rw [HK.out, if_neg k0]
          have hS3s : (S3.size : Int) ≤ 1048576 := by
            have := congrArg List.length E3
            rw [bl_len, List.length_drop, bl_len] at this
            omega
          have cf2 := cf 2
          have HW1 : Hid (∀ q, NumW w n A F false e0 ((wC.drewN q).setCell ⟨w.heap.size + 1, 2, none⟩ (.string F))) := fun q => (HW.out.drewN q).set2 F
          have HW2 : Hid (NumW w n A F false e0 (wC.drew.setCell ⟨w.heap.size + 1, 2, none⟩ (.string F))) := HW.out.drew.set2 F
          have hsl : ∀ W : World, (Instr.slice 9 (.string S2) (some (.int .i64 1)) (some (.int .i64 (k3 : Int))) none).run Tryd.prog W = .ok (.string F) W := fun W => by
            rw [run_slice_string W 9 S2 .i64 .i64 1 (k3 : Int) Tryd.underlying9 (by omega) (by omega) (by omega), Int.toNat_natCast, show (1 : Int).toNat = 1 from rfl, hF]
          have ew : IntKind.i64.wrap (k3 : Int) = (k3 : Int) := by rw [IntKind.wrap_i64]; omega
          clear EF E3 hk3a HK HP
          go_upto_region 14 with (go_at_call 20; refine (hdr _).mono ?_; rintro e wp ⟨rfl, hwp⟩; have hwp := hwp.symm; subst hwp)
          go_region
          all_goals (try go_wp2)
          all_goals go_meet
          all_goals (first | exact ⟨S3, F, rfl, hS3s, HS, HW2.out⟩ | exact ⟨S3, F, rfl, hS3s, HS, HW1.out _⟩)
    case rest =>
    clear HW hp2 HB1 HF hS2s
    obtain ⟨S3, F, rfl, hS3s, HS, HW⟩ := hcut
    obtain ⟨wD, hwD⟩ : ∃ wD, wD = wc := ⟨_, rfl⟩
    subst hwD
    have hpe := fun W => hasPrefix_any S3 101 W
    have hpE := fun W => hasPrefix_any S3 69 W
    obtain ⟨b1, hb1⟩ : ∃ b1 : Bool, decide ((bl S3).head? = some 101) = b1 := ⟨_, rfl⟩
    obtain ⟨b2, hb2⟩ : ∃ b2 : Bool, decide ((bl S3).head? = some 69) = b2 := ⟨_, rfl⟩
    rw [hb1] at hpe
    rw [hb2] at hpE
    obtain ⟨BE, hBE⟩ : ∃ BE : Bool, (b1 || b2) = BE := ⟨_, rfl⟩
    have HBE : Hid (BE = true ↔ (bl S3).head? = some 101 ∨ (bl S3).head? = some 69) := by
      show BE = true ↔ _
      rw [← hBE, Bool.or_eq_true, ← hb1, ← hb2, decide_eq_true_iff, decide_eq_true_iff]
    have HB : Hid ((b1 || b2) = BE) := hBE
    clear hb1 hb2 hBE
    go_upto_region 15 with fail
    go_cut [72] (fun s72 wx => s72 = .bool BE ∧ wx = wD)
    case first =>
      cases b1 with
      | true =>
        have e : BE = true := HB.out.symm
        subst e
        go_wp2_with (first | (go_at_call 19; refine (hpe _).mono ?_; rintro e wp ⟨rfl, hwp⟩; have hwp := hwp.symm; subst hwp) | (go_at_call 19; refine (hpE _).mono ?_; rintro e wp ⟨rfl, hwp⟩; have hwp := hwp.symm; subst hwp))
        go_meet
        exact ⟨rfl, rfl⟩
      | false =>
        have e : BE = b2 := HB.out.symm
        subst e
        go_wp2_with (first | (go_at_call 19; refine (hpe _).mono ?_; rintro e wp ⟨rfl, hwp⟩; have hwp := hwp.symm; subst hwp) | (go_at_call 19; refine (hpE _).mono ?_; rintro e wp ⟨rfl, hwp⟩; have hwp := hwp.symm; subst hwp))
        go_meet
        exact ⟨rfl, rfl⟩
    case rest =>
    clear hpe hpE HB
    obtain ⟨rfl, hw⟩ := hcut
    have hw := hw.symm
    subst hw
    go_upto_if 72 with fail
    go_cut [7, 8] (fun s7 _ wx => ∃ (S4 X : ByteArray) (en : Bool), s7 = .string S4 ∧ Hid (r = if bl S4 = [] then some (n, bl A, bl F, en, bl X) else none) ∧ Hid (NumW w n A F en X wx))
    case first =>
      obtain ⟨c0, c1, c2, c3, c4, cf⟩ := HW.out.cells
      obtain ⟨r0, r1, r2, r3, r4, rf⟩ := HW.out.res
      cases BE with
      | false =>
        have H4 : Hid (r = if bl S3 = [] then some (n, bl A, bl F, false, bl e0) else none) := by
          show r = _
          rw [HS.out]
          unfold scanE
          rw [if_neg (fun h => absurd (HBE.out.2 h) (by decide))]
        go_wp2
        go_meet
        exact ⟨S3, e0, false, rfl, H4, HW.out⟩
      | true =>
        have hh := HBE.out.1 rfl
        have h0 : 0 < S3.size := by
          rcases hh with h | h
          · exact (head_zero S3 101 h).1
          · exact (head_zero S3 69 h).1
        have hone : 1 ≤ S3.size := h0
        obtain ⟨T, hT⟩ : ∃ T, S3.extract 1 S3.size = T := ⟨_, rfl⟩
        have HT : Hid (bl T = (bl S3).tail) := by show bl T = (bl S3).tail; rw [← hT, bl_tail1]
        have HX : Hid (r = scanX n (bl A) (bl F) (bl T)) := by
          show r = _
          rw [HS.out, HT.out]
          unfold scanE
          rw [if_pos hh]
        have hTs : (T.size : Int) ≤ 1048576 := by
          have := congrArg List.length HT.out
          rw [bl_len, List.length_tail, bl_len] at this
          omega
        clear hh HS HBE
        have hpe := fun W => hasPrefix_any T 43 W
        have hpE := fun W => hasPrefix_any T 45 W
        obtain ⟨b1, hb1⟩ : ∃ b1 : Bool, decide ((bl T).head? = some 43) = b1 := ⟨_, rfl⟩
        obtain ⟨b2, hb2⟩ : ∃ b2 : Bool, decide ((bl T).head? = some 45) = b2 := ⟨_, rfl⟩
        rw [hb1] at hpe
        rw [hb2] at hpE
        obtain ⟨BS, hBS⟩ : ∃ BS : Bool, (b1 || b2) = BS := ⟨_, rfl⟩
        have HBS : Hid (BS = true ↔ (bl T).head? = some 43 ∨ (bl T).head? = some 45) := by
          show BS = true ↔ _
          rw [← hBS, Bool.or_eq_true, ← hb1, ← hb2, decide_eq_true_iff, decide_eq_true_iff]
        have HB : Hid ((b1 || b2) = BS) := hBS
        clear hb1 hb2 hBS
        go_upto_region 17 with fail
        go_cut [80] (fun s80 wx => s80 = .bool BS ∧ wx = wD)
        case first =>
          cases b1 with
          | true =>
            have e : BS = true := HB.out.symm
            subst e
            go_wp2_with (first | (go_at_call 19; refine (hpe _).mono ?_; rintro e wp ⟨rfl, hwp⟩; have hwp := hwp.symm; subst hwp) | (go_at_call 19; refine (hpE _).mono ?_; rintro e wp ⟨rfl, hwp⟩; have hwp := hwp.symm; subst hwp))
            go_meet
            exact ⟨rfl, rfl⟩
          | false =>
            have e : BS = b2 := HB.out.symm
            subst e
            go_wp2_with (first | (go_at_call 19; refine (hpe _).mono ?_; rintro e wp ⟨rfl, hwp⟩; have hwp := hwp.symm; subst hwp) | (go_at_call 19; refine (hpE _).mono ?_; rintro e wp ⟨rfl, hwp⟩; have hwp := hwp.symm; subst hwp))
            go_meet
            exact ⟨rfl, rfl⟩
        case rest =>
        clear hpe hpE HB
        obtain ⟨rfl, hw⟩ := hcut
        have hw := hw.symm
        subst hw
        go_upto_if 80 with fail
        go_cut [7] (fun s7 wx => ∃ (S5 : ByteArray) (en : Bool), s7 = .string S5 ∧ (S5.size : Int) ≤ 1048576 ∧ Hid (r = scanD n (bl A) (bl F) en (bl S5)) ∧ Hid (NumW w n A F en e0 wx))
        case first =>
          have cf3 := cf 3
          cases BS with
          | false =>
            have H5 : Hid (r = scanD n (bl A) (bl F) false (bl T)) := by
              show r = _
              rw [HX.out]
              unfold scanX
              rw [if_neg (fun h => absurd (HBS.out.2 h) (by decide))]
            go_wp2
            go_meet
            exact ⟨T, false, rfl, hTs, H5, HW.out⟩
          | true =>
            have hh := HBS.out.1 rfl
            have hT0 : 0 < T.size := by
              rcases hh with h | h
              · exact (head_zero T 43 h).1
              · exact (head_zero T 45 h).1
            have honeT : 1 ≤ T.size := hT0
            obtain ⟨U, hU⟩ : ∃ U, T.extract 1 T.size = U := ⟨_, rfl⟩
            have HU : Hid (bl U = (bl T).tail) := by show bl U = (bl T).tail; rw [← hU, bl_tail1]
            have hUs : (U.size : Int) ≤ 1048576 := by
              have := congrArg List.length HU.out
              rw [bl_len, List.length_tail, bl_len] at this
              omega
            have H5 : Hid (r = scanD n (bl A) (bl F) (decide ((bl T).head? = some 45)) (bl U)) := by
              show r = _
              rw [HX.out, HU.out]
              unfold scanX
              rw [if_pos hh]
            by_cases h45 : (bl T).head? = some 45
            · obtain ⟨hz0, e45⟩ := head_zero T 45 h45
              have hx0 : (T[0].toNat : Int) = 45 := by rw [e45]; rfl
              have H6 : Hid (r = scanD n (bl A) (bl F) true (bl U)) := by have := H5.out; rw [decide_eq_true h45] at this; exact this
              clear H5 e45 hh h45 HX HBS
              go_wp2
              go_meet
              exact ⟨U, true, rfl, hUs, H6, HW.out.set3 true⟩
            · have h43 : (bl T).head? = some 43 := by
                rcases hh with h | h
                · exact h
                · exact absurd h h45
              obtain ⟨hz0, e43⟩ := head_zero T 43 h43
              have hx0 : (T[0].toNat : Int) = 43 := by rw [e43]; rfl
              have H6 : Hid (r = scanD n (bl A) (bl F) false (bl U)) := by have := H5.out; rw [decide_eq_false h45] at this; exact this
              clear H5 e43 hh h45 h43 HX HBS
              go_wp2
              go_meet
              exact ⟨U, false, rfl, hUs, H6, HW.out.set3 false⟩
        case rest =>
        clear c0 c1 c2 c3 c4 cf r0 r1 r2 r3 r4 rf HW HX HBS HT hT hTs
        obtain ⟨S5, en, rfl, hS5, HD, HW⟩ := hcut
        obtain ⟨wE, hwE⟩ : ∃ wE, wE = wc := ⟨_, rfl⟩
        subst hwE
        obtain ⟨c0, c1, c2, c3, c4, cf⟩ := HW.out.cells
        obtain ⟨r0, r1, r2, r3, r4, rf⟩ := HW.out.res
        have hdr := fun W => digitRun_any S5 W (by omega)
        obtain ⟨k, hk⟩ : ∃ k : Nat, run (bl S5) = k := ⟨_, rfl⟩
        rw [hk] at hdr
        have HK : Hid (run (bl S5) = k) := hk
        have hkl : k ≤ S5.size := by rw [← hk]; exact run_le (bl S5)
        clear hk
        by_cases k0 : k = 0
        · subst k0
          have HN : Hid (r = none) := by
            show r = none
            rw [HD.out]
            unfold scanD
            rw [HK.out, if_pos rfl]
          go_wp2_with (go_at_call 20; refine (hdr _).mono ?_; rintro e wp ⟨rfl, hwp⟩; have hwp := hwp.symm; subst hwp)
          obtain ⟨wf, hwf⟩ : ∃ wf, wf = ((((wE.setCell ⟨w.heap.size, 0, none⟩ (.bool false)).setCell ⟨w.heap.size, 1, none⟩ (.string e0)).setCell ⟨w.heap.size, 2, none⟩ (.string e0)).setCell ⟨w.heap.size, 3, none⟩ (.bool false)).setCell ⟨w.heap.size, 4, none⟩ (.string e0) := ⟨_, rfl⟩
          obtain ⟨⟨f0, f1, f2, f3, f4⟩, hbel⟩ := HW.out.put false e0 e0 false e0 hwf
          rw [← hwf]
          clear hwf
          refine bodyPost_ret (v := .tuple #[.agg #[.bool false, .string e0, .string e0, .bool false, .string e0], .bool false]) (by simp [results, Tryd.results7, go_sem, f0, f1, f2, f3, f4]) rfl ⟨NumPost.none HN.out _ _ _ _ _, hbel⟩
        · have k0b : ((k : Int) == 0) = false := beq_eq_false_iff_ne.2 (by omega)
          obtain ⟨X, hX⟩ : ∃ X, S5.extract 0 k = X := ⟨_, rfl⟩
          obtain ⟨S6, hS6⟩ : ∃ S6, S5.extract k S5.size = S6 := ⟨_, rfl⟩
          have H6 : Hid (r = if bl S6 = [] then some (n, bl A, bl F, en, bl X) else none) := by
            show r = _
            rw [HD.out, ← hX, ← hS6, bl_take, bl_from]
            unfold scanD
            rw [HK.out, if_neg k0]
          have cf4 := cf 4
          have HW1 : Hid (∀ q, NumW w n A F en X ((wE.drewN q).setCell ⟨w.heap.size + 1, 4, none⟩ (.string X))) := fun q => (HW.out.drewN q).set4 X
          have HW2 : Hid (NumW w n A F en X (wE.drew.setCell ⟨w.heap.size + 1, 4, none⟩ (.string X))) := HW.out.drew.set4 X
          clear HK HD
          go_upto_region 23 with (go_at_call 20; refine (hdr _).mono ?_; rintro e wp ⟨rfl, hwp⟩; have hwp := hwp.symm; subst hwp)
          go_region
          all_goals (try go_wp2)
          all_goals go_meet
          all_goals (first | exact ⟨S6, X, en, rfl, H6, HW2.out⟩ | exact ⟨S6, X, en, rfl, H6, HW1.out _⟩)
    case rest =>
    clear HW HS HBE hS3s
    obtain ⟨S4, X, en, rfl, H4, HW⟩ := hcut
    obtain ⟨wF, hwF⟩ : ∃ wF, wF = wc := ⟨_, rfl⟩
    subst hwF
    obtain ⟨c0, c1, c2, c3, c4, cf⟩ := HW.out.cells
    obtain ⟨r0, r1, r2, r3, r4, rf⟩ := HW.out.res
    by_cases h4 : bl S4 = []
    · have e4 : S4 = e0 := bytes_eq h4
      subst e4
      have H5 : Hid (r = some (n, bl A, bl F, en, bl X)) := H4.out
      clear H4 h4
      go_wp2
      obtain ⟨wf, hwf⟩ : ∃ wf, wf = ((((wF.setCell ⟨w.heap.size, 0, none⟩ (.bool n)).setCell ⟨w.heap.size, 1, none⟩ (.string A)).setCell ⟨w.heap.size, 2, none⟩ (.string F)).setCell ⟨w.heap.size, 3, none⟩ (.bool en)).setCell ⟨w.heap.size, 4, none⟩ (.string X) := ⟨_, rfl⟩
      obtain ⟨⟨f0, f1, f2, f3, f4⟩, hbel⟩ := HW.out.put n A F en X hwf
      rw [← hwf]
      clear hwf
      refine bodyPost_ret (v := .tuple #[.agg #[.bool n, .string A, .string F, .bool en, .string X], .bool true]) (by simp [results, Tryd.results7, go_sem, f0, f1, f2, f3, f4]) rfl ⟨NumPost.some H5.out, hbel⟩
    · have hne : S4.toList.isEmpty = false := by
        rw [ByteArray.toList_eq]
        cases hl : S4.data.toList with
        | nil => exact absurd hl h4
        | cons _ _ => rfl
      have H5 : Hid (r = none) := by
        show r = none
        rw [H4.out, if_neg h4]
      clear H4 h4
      go_wp2
      obtain ⟨wf, hwf⟩ : ∃ wf, wf = ((((wF.setCell ⟨w.heap.size, 0, none⟩ (.bool n)).setCell ⟨w.heap.size, 1, none⟩ (.string A)).setCell ⟨w.heap.size, 2, none⟩ (.string F)).setCell ⟨w.heap.size, 3, none⟩ (.bool en)).setCell ⟨w.heap.size, 4, none⟩ (.string X) := ⟨_, rfl⟩
      obtain ⟨⟨f0, f1, f2, f3, f4⟩, hbel⟩ := HW.out.put n A F en X hwf
      rw [← hwf]
      clear hwf
      refine bodyPost_ret (v := .tuple #[.agg #[.bool n, .string A, .string F, .bool en, .string X], .bool false]) (by simp [results, Tryd.results7, go_sem, f0, f1, f2, f3, f4]) rfl ⟨NumPost.none H5.out _ _ _ _ _, hbel⟩
end Go.Proofs.Qxb6603961aDoor
