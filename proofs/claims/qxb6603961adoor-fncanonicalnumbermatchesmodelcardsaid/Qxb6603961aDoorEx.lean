/-
  Seat b6603961aD: the walk of addToExponent.
-/
import Derived.Test.Qxb6603961aDoorLb
import Derived.Lib.ConvBytes
import Derived.Lib.AtoiErrMem
namespace Go.Proofs.Qxb6603961aDoor
open Go.Shelf Go.RowKit Nb

theorem Tab.below {w w' : World} (h : Tab w) (hb : Below w.heap.size w w') : Tab w' := by
  have hg : Tryd.prog.globalNamed tabName = some 0 := by kernel_rfl
  unfold Tab Lib.TabIs World.var? at h ⊢
  rw [hg] at h ⊢
  simp only [Option.bind_some] at h ⊢
  have hlt : 0 < w.heap.size := by
    rcases Nat.lt_or_ge 0 w.heap.size with h' | h'
    · exact h'
    · rw [Array.getElem?_eq_none h'] at h; cases h
  rw [hb.block 0 hlt]
  exact h
theorem Row.bytes (w : World) (X : ByteArray) : Row w w.heap.size (bl X) (Lib.bytesWorld w 5 X) := by
  refine ⟨Lib.bytesWorld_below _ _ _, Nat.le_refl _, fun j hj => ?_, fun j hj => ?_⟩
  · rw [Lib.bytesWorld_cell _ _ _ _ hj]
    have e : X.data.toList.getD j 0 = (bl X)[j] := by
      rw [List.getD_eq_getElem?_getD, List.getElem?_eq_getElem hj]
      rfl
    rw [e]
  · have hj' : j < X.size := hj
    have hsz : X.size ≤ (Lib.bytesCells w 5 X).size := by
      unfold Lib.bytesCells
      rw [Array.size_append, Array.size_map]
      show X.size ≤ X.size + _
      omega
    unfold World.frozen?
    rw [Lib.bytesWorld_at_new]
    show (decide ((Lib.bytesCells w 5 X).size ≤ j) && _) = false
    rw [decide_eq_false (by omega), Bool.false_and]

def ExpR (w : World) (x : List UInt8) (b : Int) (g k : Nat) (carry : Int) (wr : World) : Prop :=
  ∃ L, Row w g L wr ∧ L.length = x.length ∧ L.take (x.length - k) = x.take (x.length - k) ∧ ExpI x b k carry (L.drop (x.length - k))
theorem ExpR.start (w : World) (X : ByteArray) (b : Int) : ExpR w (bl X) b w.heap.size 0 b (Lib.bytesWorld w 5 X) :=
  ⟨bl X, Row.bytes w X, rfl, rfl, by rw [List.drop_eq_nil_of_le (by omega)]; exact ExpI.start _ _⟩
theorem ExpR.step {w : World} {x : List UInt8} {b : Int} {g k : Nat} {carry : Int} {wr : World} (h : ExpR w x b g k carry wr) {d : Nat} {nc : Int} (hd : d < 10) (he : (nth x k : Int) + carry = nc * 10 + d) {q : Nat} (hq : q + k + 1 = x.length) {v : Int} (hv : v = 48 + (d : Int)) :
    ExpR w x b g (k + 1) nc (wr.setCell ⟨g, q, none⟩ (.int .u8 v)) := by
  obtain ⟨L, h1, h2, h3, h4⟩ := h
  refine ⟨L.set q (UInt8.ofNat (48 + d)), h1.set q _ v (by rw [toNat_dig _ hd, hv]; omega), by rw [List.length_set, h2], ?_, ?_⟩
  · rw [show x.length - (k + 1) = q from by omega, set_take]
    have e := congrArg (List.take q) h3
    rw [List.take_take, List.take_take, Nat.min_eq_left (by omega)] at e
    exact e
  · rw [show x.length - (k + 1) = q from by omega, set_drop _ _ _ (by omega), show q + 1 = x.length - k from by omega]
    exact h4.step (by omega) hd he
theorem ExpR.cell {w : World} {x : List UInt8} {b : Int} {g k : Nat} {carry : Int} {wr : World} (h : ExpR w x b g k carry wr) {q : Nat} (hq : q + k + 1 = x.length) (hql : q < x.length) :
    wr.cell? ⟨g, q, none⟩ = some (.int .u8 (x[q].toNat : Int)) ∧ wr.frozen? ⟨g, q, none⟩ = false := by
  obtain ⟨L, h1, h2, h3, h4⟩ := h
  refine ⟨?_, h1.2.2.2 q (by omega)⟩
  rw [h1.2.2.1 q (by omega)]
  have e : L[q]'(by omega) = x[q] := by
    have e1 : (L.take (x.length - k))[q]? = L[q]? := List.getElem?_take_of_lt (by omega)
    have e2 : (x.take (x.length - k))[q]? = x[q]? := List.getElem?_take_of_lt (by omega)
    rw [h3, e2, List.getElem?_eq_getElem hql, List.getElem?_eq_getElem (by omega)] at e1
    exact (Option.some.inj e1).symm
  rw [e]
theorem ExpR.zero {w : World} {x : List UInt8} {b : Int} {g k : Nat} {wr : World} (h : ExpR w x b g k 0 wr) (hx : allDig x = true) (hp : 0 < (val 0 x : Int) + b) : ∃ L, Row w g L wr ∧ L.length = x.length ∧ strip L = Lib.decDigits ((val 0 x : Int) + b).natAbs := by
  obtain ⟨L, h1, h2, h3, h4⟩ := h
  refine ⟨L, h1, h2, ?_⟩
  rw [← h4.zero hx hp, ← h3, List.take_append_drop]
theorem ExpR.full {w : World} {x : List UInt8} {b : Int} {g : Nat} {carry : Int} {wr : World} (h : ExpR w x b g x.length carry wr) (hp : 0 < (val 0 x : Int) + b) : 0 ≤ carry ∧ ∃ L, Row w g L wr ∧ L.length = x.length ∧ (0 < carry → strip (Lib.itoa carry ++ L) = Lib.decDigits ((val 0 x : Int) + b).natAbs) := by
  obtain ⟨L, h1, h2, h3, h4⟩ := h
  rw [Nat.sub_self, List.drop_zero] at h4
  exact ⟨h4.notneg hp, L, h1, h2, fun hc => h4.full hp hc⟩
theorem itoa_sum (en : Bool) (x : List UInt8) (by_ b : Int) (hb : b = if en = true then -by_ else by_) (hp : 0 < (val 0 x : Int) + b) : Lib.itoa (expo en x + by_) = (if en = true then [45] else []) ++ Lib.decDigits ((val 0 x : Int) + b).natAbs := by
  unfold expo
  cases en
  · have hb : b = by_ := hb
    show Lib.itoa ((val 0 x : Int) + by_) = [] ++ _
    rw [itoa_pos (by omega), hb]
    rfl
  · have hb : b = -by_ := hb
    show Lib.itoa (-(val 0 x : Int) + by_) = [45] ++ _
    rw [itoa_neg (by omega), show (-(val 0 x : Int) + by_).natAbs = ((val 0 x : Int) + b).natAbs from by omega]
    rfl

set_option maxHeartbeats 4000000 in
theorem addTo_any (X : ByteArray) (en : Bool) (by_ : Int) (w : World) (ht : Tab w) (hx : allDig (bl X) = true) (hsz : (X.size : Int) ≤ 1048577) (hb1 : -1048577 ≤ by_) (hb2 : by_ ≤ 1048577) (hv : 1048577 < (val 0 (bl X) : Int)) :
    Calls Tryd.prog 12 #[.string X, .bool en, .int .i64 by_] w fun e w' => e = .returned (.string (ofl (Lib.itoa (expo en (bl X) + by_)))) ∧ Below w.heap.size w w' := by
  obtain ⟨b, hb⟩ : ∃ b : Int, b = if en = true then -by_ else by_ := ⟨_, rfl⟩
  have hbl : -1048577 ≤ b ∧ b ≤ 1048577 := by rw [hb]; split <;> omega
  have hbl1 := hbl.1
  have hbl2 := hbl.2
  have hp : 0 < (val 0 (bl X) : Int) + b := by omega
  have HP : Hid (0 < (val 0 (bl X) : Int) + b) := hp
  have HX : Hid (allDig (bl X) = true) := hx
  have HT : Hid (Tab w) := ht
  obtain ⟨D, hD⟩ : ∃ D, Lib.decDigits ((val 0 (bl X) : Int) + b).natAbs = D := ⟨_, rfl⟩
  rw [itoa_sum en (bl X) by_ b hb hp, hD]
  have HD : Hid (Lib.decDigits ((val 0 (bl X) : Int) + b).natAbs = D) := hD
  have Hb : Hid (b = if en = true then -by_ else by_) := hb
  have HDs : Hid ((D.length : Int) ≤ 3000000) := by
    show (D.length : Int) ≤ 3000000
    rw [← hD]
    have h1 := pow_size false (decide (b < 0)) (bl X) b hx (by omega)
    have h2 : sgn false (val 0 (bl X)) + sgn (decide (b < 0)) b.natAbs = (val 0 (bl X) : Int) + b := by
      unfold sgn
      by_cases h : b < 0
      · rw [if_neg (by decide), if_pos (decide_eq_true h)]; omega
      · rw [if_neg (by decide), if_neg (by rw [decide_eq_false h]; decide)]; omega
    rw [h2, bl_len] at h1
    omega
  clear hp hx ht hv hD hb hbl
  generalize hR : ofl ((if en = true then [45] else []) ++ D) = R
  have HR : Hid (ofl ((if en = true then [45] else []) ++ D) = R) := hR
  clear hR
  have kc := fun (w : World) => Lib.run_convert_string_bytes (P := Tryd.prog) w 9 42 5 X Tryd.underlying9 Tryd.underlying42 Tryd.underlying5
  go_enter Tryd.func12, Tryd.ntmps12
  go_upto_if 12 with fail
  go_cut [2] (fun s2 wx => s2 = .int .i64 b ∧ wx = w)
  case first =>
    cases en with
    | true =>
      have e : -by_ = b := Hb.out.symm
      clear Hb
      go_wp2
      go_meet
      exact ⟨rfl, rfl⟩
    | false =>
      have e : by_ = b := Hb.out.symm
      subst e
      clear Hb
      go_wp2
      go_meet
      exact ⟨rfl, rfl⟩
  case rest =>
    obtain ⟨rfl, hw⟩ := hcut
    have hw := hw.symm
    subst hw
    have HS : Hid (ExpR w (bl X) b w.heap.size 0 b (Lib.bytesWorld w 5 X)) := ExpR.start w X b
    obtain ⟨C, hC⟩ : ∃ C, grownCap w X.size 0 5 = C := ⟨_, rfl⟩
    obtain ⟨i0, hi0⟩ : ∃ i0 : Int, (X.size : Int) - 1 = i0 := ⟨_, rfl⟩
    go_wp2
    go_loopw [8, 9] (fun v8 v9 wr => ∃ (k : Nat) (carry iv : Int), v8 = .int .i64 carry ∧ v9 = .int .i64 iv ∧ iv + (k : Int) + 1 = (X.size : Int) ∧ -1 ≤ iv ∧ -1048577 ≤ carry ∧ carry ≤ 1048577 ∧ Hid (ExpR w (bl X) b w.heap.size k carry wr)) (fun _ v9 _ => (intOf v9 + 1).toNat)
    case atStart => exact ⟨0, b, i0, rfl, rfl, by omega, by omega, hbl1, hbl2, HS.out⟩
    case round =>
      clear kc HS hi0
      obtain ⟨k, carry, iv, rfl, rfl, hik, hiv, hc1, hc2, HE⟩ := hrel
      obtain ⟨TD, hTD⟩ : ∃ TD, ofl D = TD := ⟨_, rfl⟩
      have HRT : Hid (ofl ([45] ++ D) = ⟨#[45]⟩ ++ TD) := by
        show ofl ([45] ++ D) = ⟨#[45]⟩ ++ TD
        rw [← hTD]
        apply bytes_eq
        rw [bl_append]
      have HTD : Hid (ofl D = TD) := hTD
      have hcat2 : ¬ 9223372036854775807 < (⟨#[45]⟩ : ByteArray).size + TD.size := by
        rw [← hTD]
        show ¬ 9223372036854775807 < 1 + D.length
        have := HDs.out
        omega
      by_cases hz : carry = 0
      · subst hz
        obtain ⟨L, h1, h2, h3⟩ := HE.out.zero HX.out HP.out
        have hcv := h1.conv X.size C h2
        have htl := fun W => trimLeft_any (ofl L) W
        rw [show ofl (strip (bl (ofl L))) = TD from by rw [← hTD, ← HD.out, ← h3]] at htl
        have HB : Hid (Below w.heap.size w wr) := h1.1
        clear h1 h2 h3 HE HD HP HX HT hTD
        by_cases h0 : iv ≥ 0
        · cases en
          · have eR : R = TD := HR.out.symm.trans HTD.out
            subst eR
            go_wp2_with (go_at_call 8; refine (htl _).mono ?_; rintro e w1 ⟨rfl, hw1⟩; have hw1 := hw1.symm; subst hw1)
            go_ret
            exact ⟨rfl, HB.out⟩
          · have eR : R = ⟨#[45]⟩ ++ TD := HR.out.symm.trans HRT.out
            subst eR
            go_wp2_with (go_at_call 8; refine (htl _).mono ?_; rintro e w1 ⟨rfl, hw1⟩; have hw1 := hw1.symm; subst hw1)
            go_ret
            exact ⟨rfl, HB.out⟩
        · have h0' : decide (0 ≤ iv) = false := decide_eq_false h0
          cases en
          · have eR : R = TD := HR.out.symm.trans HTD.out
            subst eR
            go_wp2_with (go_at_call 8; refine (htl _).mono ?_; rintro e w1 ⟨rfl, hw1⟩; have hw1 := hw1.symm; subst hw1)
            go_ret
            exact ⟨rfl, HB.out⟩
          · have eR : R = ⟨#[45]⟩ ++ TD := HR.out.symm.trans HRT.out
            subst eR
            go_wp2_with (go_at_call 8; refine (htl _).mono ?_; rintro e w1 ⟨rfl, hw1⟩; have hw1 := hw1.symm; subst hw1)
            go_ret
            exact ⟨rfl, HB.out⟩
      · by_cases h0 : iv ≥ 0
        · obtain ⟨q, hq⟩ : ∃ q : Nat, iv = (q : Int) := ⟨iv.toNat, by omega⟩
          subst hq
          have hqk : q + k + 1 = X.size := by omega
          have hql : q < X.size := by omega
          obtain ⟨hcell, hfr⟩ := HE.out.cell (q := q) hqk hql
          obtain ⟨d0, hd0, ed0, hxd⟩ := dig_int (List.all_eq_true.1 HX.out ((bl X)[q]'hql) (List.getElem_mem (l := bl X) hql))
          rw [hxd] at hcell
          have en0 : nth (bl X) k = d0 := (nth_read X k q hqk hql).trans ed0
          have eu : IntKind.u8.wrap (48 + (d0 : Int) - 48) = (d0 : Int) := by rw [IntKind.wrap_u8]; omega
          obtain ⟨qq, hqq⟩ : ∃ qq : Int, Int.tdiv ((d0 : Int) + carry) 10 = qq := ⟨_, rfl⟩
          obtain ⟨rr, hrr⟩ : ∃ rr : Int, Int.tmod ((d0 : Int) + carry) 10 = rr := ⟨_, rfl⟩
          have hdm : (d0 : Int) + carry = qq * 10 + rr ∧ -9 ≤ rr ∧ rr ≤ 9 := by
            have h := Int.mul_tdiv_add_tmod ((d0 : Int) + carry) 10
            have h1 := Int.tmod_lt_of_pos ((d0 : Int) + carry) (by decide : (0 : Int) < 10)
            have h2 := Int.lt_tmod_of_pos ((d0 : Int) + carry) (by decide : (0 : Int) < 10)
            rw [hqq, hrr] at h
            rw [hrr] at h1 h2
            omega
          have hqq1 : -1000000 ≤ qq := by omega
          have hqq2 : qq ≤ 1000000 := by omega
          have HDM : Hid ((d0 : Int) + carry = qq * 10 + rr) := hdm.1
          have hdm2 := hdm.2.1
          have hdm3 := hdm.2.2
          clear hdm
          have hcz : (carry == 0) = false := beq_eq_false_iff_ne.2 hz
          by_cases hneg : rr < 0
          · obtain ⟨d1, hd1⟩ : ∃ d1 : Nat, rr + 10 = (d1 : Int) := ⟨(rr + 10).toNat, by omega⟩
            have hd1' : (d1 : Int) < 10 := by omega
            have HN : Hid (∀ v : Int, v = 48 + (d1 : Int) → ExpR w (bl X) b w.heap.size (k + 1) (qq - 1) (wr.setCell ⟨w.heap.size, q, none⟩ (.int .u8 v))) := fun v hv => HE.out.step (d := d1) (nc := qq - 1) (by omega) (by rw [en0]; have := HDM.out; omega) hqk hv
            clear HE ed0 en0 hxd HRT HTD hTD hcat2 HD HP HX HT HDM
            go_wp2
            go_roundw
            case rel => exact ⟨k + 1, qq - 1, (q : Int) - 1, by go_num, rfl, by omega, by omega, by omega, by omega, HN.out _ (by go_num)⟩
            case measure => simp [intOf]
          · obtain ⟨d1, hd1⟩ : ∃ d1 : Nat, rr = (d1 : Int) := ⟨rr.toNat, by omega⟩
            subst hd1
            have HN : Hid (∀ v : Int, v = 48 + (d1 : Int) → ExpR w (bl X) b w.heap.size (k + 1) qq (wr.setCell ⟨w.heap.size, q, none⟩ (.int .u8 v))) := fun v hv => HE.out.step (d := d1) (nc := qq) (by omega) (by rw [en0]; have := HDM.out; omega) hqk hv
            clear HE ed0 en0 hxd HRT HTD hTD hcat2 HD HP HX HT HDM
            go_wp2
            go_roundw
            case rel => exact ⟨k + 1, qq, (q : Int) - 1, by go_num, rfl, by omega, by omega, by omega, by omega, HN.out _ (by go_num)⟩
            case measure => simp [intOf]
        · have hkk : k = (bl X).length := by rw [bl_len]; omega
          have h0' : decide (0 ≤ iv) = false := decide_eq_false h0
          have hE := HE.out
          rw [hkk] at hE
          obtain ⟨hc0, L, h1, h2, h3⟩ := hE.full HP.out
          have hcp : 0 < carry := by omega
          have h3 := h3 hcp
          have hcv := h1.conv X.size C h2
          obtain ⟨IT, hIT⟩ : ∃ IT, ofl (Lib.itoa carry) = IT := ⟨_, rfl⟩
          have hito := itoa_any carry wr (by omega) (by omega) (HT.out.below h1.1)
          rw [hIT] at hito
          obtain ⟨TX, hTX⟩ : ∃ TX, ofl L = TX := ⟨_, rfl⟩
          rw [hTX] at hcv
          have hcat1 : ¬ 9223372036854775807 < IT.size + TX.size := by
            rw [← hIT, ← hTX]
            show ¬ 9223372036854775807 < (Lib.itoa carry).length + L.length
            have e1 : (Lib.itoa carry).length ≤ 8 := by
              rw [itoa_pos hc0]
              exact dec_len_pow (Nat.lt_of_le_of_lt (by omega : carry.natAbs ≤ 1048577) (by decide)) (by decide)
            rw [h2, bl_len]
            omega
          obtain ⟨CT, hCT⟩ : ∃ CT, IT ++ TX = CT := ⟨_, rfl⟩
          have htl := fun W => trimLeft_any CT W
          rw [show ofl (strip (bl CT)) = TD from by rw [← hTD, ← HD.out, ← h3, ← hCT, bl_append, ← hIT, ← hTX]] at htl
          have HB : Hid (Below w.heap.size w wr) := h1.1
          clear h1 h2 h3 hE HE HD HP HX HT hTD hIT hTX hkk
          cases en
          · have eR : R = TD := HR.out.symm.trans HTD.out
            subst eR
            go_wp2_with (first | (go_at_call 8; refine (htl _).mono ?_; rintro e w1 ⟨rfl, hw1⟩; have hw1 := hw1.symm; subst hw1) | (go_at_call 32; refine hito.mono ?_; rintro e w2 ⟨rfl, hb2⟩))
            go_ret
            exact ⟨rfl, below_up HB.out hb2⟩
          · have eR : R = ⟨#[45]⟩ ++ TD := HR.out.symm.trans HRT.out
            subst eR
            go_wp2_with (first | (go_at_call 8; refine (htl _).mono ?_; rintro e w1 ⟨rfl, hw1⟩; have hw1 := hw1.symm; subst hw1) | (go_at_call 32; refine hito.mono ?_; rintro e w2 ⟨rfl, hb2⟩))
            go_ret
            exact ⟨rfl, below_up HB.out hb2⟩
end Go.Proofs.Qxb6603961aDoor
