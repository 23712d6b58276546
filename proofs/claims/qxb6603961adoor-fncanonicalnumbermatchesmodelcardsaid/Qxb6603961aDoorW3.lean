/-
  Seat b6603961aD: a row of bytes of the call's own; the walk of zzMagAdd.
-/
import Derived.Test.Qxb6603961aDoorW2
import Derived.Laws.IdiomStrings
import Derived.Laws.OwnMore
import Derived.Deep.DeepCutAuto
import Derived.Deep.CutBlock
import Derived.Deep.RegionLaw
namespace Go.Proofs.Qxb6603961aDoor
open Go.RowKit Nb

/-- The bytes L lie at block g, which is the call's own. -/
def Row (w : World) (g : Nat) (L : List UInt8) (wr : World) : Prop :=
  Below w.heap.size w wr ∧ w.heap.size ≤ g ∧ (∀ j (hj : j < L.length), wr.cell? ⟨g, j, none⟩ = some (.int .u8 (L[j].toNat : Int))) ∧ (∀ j, j < L.length → wr.frozen? ⟨g, j, none⟩ = false)
theorem Row.set {w : World} {g : Nat} {L : List UInt8} {wr : World} (h : Row w g L wr) (q : Nat) (c : UInt8) (v : Int) (hv : v = (c.toNat : Int)) : Row w g (L.set q c) (wr.setCell ⟨g, q, none⟩ (.int .u8 v)) := by
  obtain ⟨h1, h2, h3, h4⟩ := h
  refine ⟨h1.setCell h2 _, h2, fun j hj => ?_, fun j hj => ?_⟩
  · have hj' := hj
    rw [List.length_set] at hj'
    by_cases e : j = q
    · subst e
      rw [World.cell?_setCell_same _ _ _ (h3 j hj'), List.getElem_set_self, hv]
    · rw [World.cell?_setCell_other _ _ _ _ (fun hh => e (congrArg Addr.off hh).symm), List.getElem_set_ne (fun hh => e hh.symm)]
      exact h3 j hj'
  · rw [List.length_set] at hj
    rw [World.frozen?_setCell]
    exact h4 j hj
theorem Row.drewN {w : World} {g : Nat} {L : List UInt8} {wr : World} (h : Row w g L wr) (q : Nat) : Row w g L (wr.drewN q) := ⟨below_dN h.1 q, h.2⟩
theorem addr_add (g j : Nat) : (⟨g, 0, none⟩ : Addr).add j = ⟨g, j, none⟩ := by
  simp only [Addr.add, Nat.zero_add]
  split
  · rename_i h; subst h; rfl
  · rfl
theorem Row.conv {w : World} {g : Nat} {L : List UInt8} {wr : World} (h : Row w g L wr) (N cap : Nat) (hN : L.length = N) : (convert 42 9 (.slice (some ⟨g, 0, none⟩) N cap)).run Tryd.prog wr = .ok (.string (ofl L)) wr := by
  subst hN
  exact run_convert_bytes_back wr 42 9 5 ⟨g, 0, none⟩ cap L Tryd.underlying42 Tryd.underlying5 Tryd.underlying9 (fun j hj => by rw [addr_add]; exact h.2.2.1 j hj)
theorem info_parts {i : Option TypeInfo} {z : Value} {s b : Nat} (h : i.map (fun i => (i.zero, i.size, i.bytes)) = some (some z, s, b)) : ∃ i0, i = some i0 ∧ i0.zero = some z ∧ i0.size = s ∧ i0.bytes = b := by
  cases i with
  | none => cases h
  | some i0 =>
    have := Option.some.inj h
    exact ⟨i0, rfl, congrArg (·.1) this, congrArg (·.2.1) this, congrArg (·.2.2) this⟩
theorem info5 : (Tryd.prog.info? 5).map (fun i => (i.zero, i.size, i.bytes)) = some (some (.int .u8 0), 1, 1) := by kernel_rfl
def farB (m : Nat) : Array Value := madeCells #[.int .u8 0] m
theorem run_make42 (w : World) (m : Nat) (hm : m ≤ 4611686018427) : (Instr.makeSlice 42 (.int .i64 (m : Int)) (.int .i64 (m : Int))).run Tryd.prog w = .ok (.slice (some ⟨w.heap.size, 0, none⟩) m m) (w.alloc (.cells (farB m) 5)) := by
  obtain ⟨i0, hi, hz0, hz1, hz2⟩ := info_parts info5
  rw [run_make w 42 5 i0 (.int .u8 0) Tryd.underlying42 hi hz0 .i64 .i64 (m : Int) (m : Int) (by omega) (by omega) (by rw [hz2]; omega) (by omega), hz1, Int.toNat_natCast, Nat.mul_one]
  rfl
theorem Row.make (w : World) (m : Nat) : Row w w.heap.size (List.replicate m 0) (w.alloc (.cells (farB m) 5)) := by
  refine ⟨(Below.refl _ _).alloc (Nat.le_refl _) _, Nat.le_refl _, fun j hj => ?_, fun j hj => ?_⟩
  · rw [List.length_replicate] at hj
    rw [World.cell?_alloc_mark]
    have e : (farB m).toList = List.replicate m (.int .u8 0) := toList_madeCells_one _ _
    rw [← Array.getElem?_toList, e, List.getElem?_replicate, if_pos hj, List.getElem_replicate]
    rfl
  · rw [World.frozen?_alloc_mark]
    simp
theorem set_drop (L : List UInt8) (q : Nat) (c : UInt8) (h : q < L.length) : (L.set q c).drop q = c :: L.drop (q + 1) := by
  rw [List.drop_eq_getElem_cons (by rw [List.length_set]; exact h), List.getElem_set_self, List.drop_set_of_lt (by omega)]
theorem set_take (L : List UInt8) (q : Nat) (c : UInt8) : (L.set q c).take q = L.take q := by
  rw [List.take_set_of_le (Nat.le_refl _)]
def AddR (w : World) (A B : List UInt8) (n g k carry : Nat) (wr : World) : Prop :=
  ∃ L, Row w g L wr ∧ L.length = n + 1 ∧ AddI A B k carry (L.drop (n + 1 - k))
theorem AddR.step {w : World} {A B : List UInt8} {n g k carry : Nat} {wr : World} (h : AddR w A B n g k carry wr) (ha : allDig A = true) (hb : allDig B = true) {q : Nat} (hq : q + k = n) {v : Int} (hv : v = 48 + ((carry + nth A k + nth B k) % 10 : Nat)) (hq0 : 0 < q) :
    AddR w A B n g (k + 1) ((carry + nth A k + nth B k) / 10) (wr.setCell ⟨g, q, none⟩ (.int .u8 v)) := by
  obtain ⟨L, h1, h2, h3⟩ := h
  have hm : (carry + nth A k + nth B k) % 10 < 10 := Nat.mod_lt _ (by decide)
  refine ⟨L.set q (UInt8.ofNat (48 + (carry + nth A k + nth B k) % 10)), h1.set q _ v (by rw [toNat_dig _ hm, hv]; omega), by rw [List.length_set, h2], ?_⟩
  rw [show n + 1 - (k + 1) = q from by omega, set_drop _ _ _ (by omega), show q + 1 = n + 1 - k from by omega]
  exact h3.step ha hb
theorem AddR.cell {w : World} {A B : List UInt8} {n g k carry : Nat} {wr : World} (h : AddR w A B n g k carry wr) (q : Nat) (hq : q ≤ n) : (∃ c, wr.cell? ⟨g, q, none⟩ = some (.int .u8 c)) ∧ wr.frozen? ⟨g, q, none⟩ = false := by
  obtain ⟨L, h1, h2, h3⟩ := h
  exact ⟨⟨_, h1.2.2.1 q (by omega)⟩, h1.2.2.2 q (by omega)⟩
theorem AddR.done {w : World} {A B : List UInt8} {n g carry : Nat} {wr : World} (h : AddR w A B n g n carry wr) (ha : A.length ≤ n) (hb : B.length ≤ n) {v : Int} (hv : v = 48 + (carry : Int)) :
    ∃ L, Row w g L (wr.setCell ⟨g, 0, none⟩ (.int .u8 v)) ∧ L.length = n + 1 ∧ trimZ L = Lib.decDigits (val 0 A + val 0 B) := by
  obtain ⟨L, h1, h2, h3⟩ := h
  have hc : carry ≤ 1 := h3.2.2.1
  refine ⟨L.set 0 (UInt8.ofNat (48 + carry)), h1.set 0 _ v (by rw [toNat_dig _ (by omega), hv]; omega), by rw [List.length_set, h2], ?_⟩
  rw [← h3.done ha hb]
  congr 1
  rw [← List.drop_zero (l := L.set 0 _), set_drop _ _ _ (by omega)]
  congr 2
  omega
theorem nth_read (s : ByteArray) (k j : Nat) (h : j + k + 1 = s.size) (hj : j < s.size) : nth (bl s) k = dig s[j] := by
  unfold nth
  rw [dif_pos (by rw [bl_len]; omega)]
  congr 1
  have e : (bl s).length - 1 - k = j := by rw [bl_len]; omega
  simp only [e]
  rfl
theorem nth_none (s : ByteArray) (k : Nat) (h : s.size ≤ k) : nth (bl s) k = 0 := by
  unfold nth
  rw [dif_neg (by rw [bl_len]; omega)]
theorem dig_int {c : UInt8} (h : isDig c = true) : ∃ d : Nat, d < 10 ∧ dig c = d ∧ (c.toNat : Int) = 48 + (d : Int) := ⟨dig c, dig_lt c h, rfl, by have := (isDig_iff c).1 h; unfold dig; omega⟩

set_option maxHeartbeats 1000000 in
theorem magAdd_any (a b : ByteArray) (w : World) (ha : allDig (bl a) = true) (hb : allDig (bl b) = true) (hsa : a.size ≤ 1048577) (hsb : b.size ≤ 1048577) :
    Calls Tryd.prog 35 #[.string a, .string b] w fun e w' => e = .returned (.string (ofl (Lib.decDigits (val 0 (bl a) + val 0 (bl b))))) ∧ Below w.heap.size w w' := by
  generalize hR : ofl (Lib.decDigits (val 0 (bl a) + val 0 (bl b))) = R
  have HR : Hid (ofl (Lib.decDigits (val 0 (bl a) + val 0 (bl b))) = R) := hR
  clear hR
  have Ha : Hid (allDig (bl a) = true) := ha
  have Hb : Hid (allDig (bl b) = true) := hb
  clear ha hb
  obtain ⟨n, hn, hna, hnb⟩ : ∃ n : Nat, n = max a.size b.size ∧ a.size ≤ n ∧ b.size ≤ n := ⟨_, rfl, Nat.le_max_left _ _, Nat.le_max_right _ _⟩
  have Hn : Hid (n = max a.size b.size) := hn
  have hn2 : n ≤ 1048577 := by omega
  have hmk := fun W => run_make42 W (n + 1) (by omega)
  have hcast : ((n + 1 : Nat) : Int) = (n : Int) + 1 := by omega
  rw [hcast] at hmk
  have hn2' : (n : Int) ≤ 1048577 := by omega
  clear hsa hsb hn2 hcast hn
  go_enter Tryd.func35, Tryd.ntmps35
  go_upto_if 15 with fail
  go_cut [5] (fun s5 wx => s5 = .int .i64 (n : Int) ∧ wx = w)
  case first =>
    by_cases h : (b.size : Int) > (a.size : Int)
    · have e : b.size = n := by have := Hn.out; omega
      subst e
      go_wp2
      go_meet
      exact ⟨rfl, rfl⟩
    · have e : a.size = n := by have := Hn.out; omega
      subst e
      go_wp2
      go_meet
      exact ⟨rfl, rfl⟩
  case rest =>
    obtain ⟨rfl, hw⟩ := hcut
    have hw := hw.symm
    subst hw
    have HS : Hid (AddR w (bl a) (bl b) n w.heap.size 0 0 (w.alloc (.cells (farB (n + 1)) 5))) := ⟨_, Row.make w (n + 1), List.length_replicate, by rw [List.drop_eq_nil_of_le (by rw [List.length_replicate]; omega)]; exact AddI.start _ _⟩
    go_wp2
    go_loopw [7, 8] (fun cv kv wr => ∃ k c : Nat, k ≤ n ∧ (c : Int) ≤ 1 ∧ cv = .int .i64 (c : Int) ∧ kv = .int .i64 (k : Int) ∧ Hid (AddR w (bl a) (bl b) n w.heap.size k c wr)) (fun _ i _ => n - (intOf i).toNat)
    case atStart => exact ⟨0, 0, Nat.zero_le _, by decide, rfl, rfl, HS.out⟩
    case round =>
      clear hmk HS
      obtain ⟨k, c, hk, hc, rfl, rfl, HR1⟩ := hrel
      by_cases hlt : k < n
      · obtain ⟨q, hq⟩ : ∃ q : Nat, q + k = n := ⟨n - k, by omega⟩
        obtain ⟨⟨cq, hcell⟩, hfr⟩ := HR1.out.cell q (by omega)
        have hqi : (n : Int) - (k : Int) = (q : Int) := by omega
        have hstep : ∀ v : Int, v = 48 + ((c + nth (bl a) k + nth (bl b) k) % 10 : Nat) → Hid (AddR w (bl a) (bl b) n w.heap.size (k + 1) ((c + nth (bl a) k + nth (bl b) k) / 10) (wr.setCell ⟨w.heap.size, q, none⟩ (.int .u8 v))) := fun v hv => HR1.out.step Ha.out Hb.out hq hv (by omega)
        have HST : Hid (∀ v : Int, v = 48 + ((c + nth (bl a) k + nth (bl b) k) % 10 : Nat) → Hid (AddR w (bl a) (bl b) n w.heap.size (k + 1) ((c + nth (bl a) k + nth (bl b) k) / 10) (wr.setCell ⟨w.heap.size, q, none⟩ (.int .u8 v)))) := hstep
        clear hstep HR1
        by_cases ka : k < a.size
        · obtain ⟨ja, hja⟩ : ∃ ja : Nat, ja + k + 1 = a.size := ⟨a.size - k - 1, by omega⟩
          have hjl : ja < a.size := by omega
          have hjai : (a.size : Int) - 1 - (k : Int) = (ja : Int) := by omega
          obtain ⟨da, hda, eda, hxa⟩ := dig_int (List.all_eq_true.1 Ha.out a[ja] (List.getElem_mem (l := bl a) hjl))
          have Ea : Hid (nth (bl a) k = da) := (nth_read a k ja hja hjl).trans eda
          have eu : IntKind.u8.wrap (48 + (da : Int) - 48) = (da : Int) := by rw [IntKind.wrap_u8]; omega
          clear eda hja
          by_cases kb : k < b.size
          · obtain ⟨jb, hjb⟩ : ∃ jb : Nat, jb + k + 1 = b.size := ⟨b.size - k - 1, by omega⟩
            have hkl : jb < b.size := by omega
            have hkbi : (b.size : Int) - 1 - (k : Int) = (jb : Int) := by omega
            obtain ⟨db, hdb, edb, hxb⟩ := dig_int (List.all_eq_true.1 Hb.out b[jb] (List.getElem_mem (l := bl b) hkl))
            have Eb : Hid (nth (bl b) k = db) := (nth_read b k jb hjb hkl).trans edb
            have ev : IntKind.u8.wrap (48 + (db : Int) - 48) = (db : Int) := by rw [IntKind.wrap_u8]; omega
            clear edb hjb
            have HN := HST.out
            rw [Ea.out, Eb.out] at HN
            have HNN : Hid (∀ v : Int, v = 48 + ((c + da + db) % 10 : Nat) → Hid (AddR w (bl a) (bl b) n w.heap.size (k + 1) ((c + da + db) / 10) (wr.setCell ⟨w.heap.size, q, none⟩ (.int .u8 v)))) := HN
            clear HN HST
            go_wp2
            go_roundw
            case rel => exact ⟨k + 1, (c + da + db) / 10, by omega, by omega, by go_num, by go_num, HNN.out _ (by go_num)⟩
            case measure => simp [intOf]; omega
          · have HN := HST.out
            rw [Ea.out, nth_none b k (by omega)] at HN
            have HNN : Hid (∀ v : Int, v = 48 + ((c + da + 0) % 10 : Nat) → Hid (AddR w (bl a) (bl b) n w.heap.size (k + 1) ((c + da + 0) / 10) (wr.setCell ⟨w.heap.size, q, none⟩ (.int .u8 v)))) := HN
            clear HN HST
            go_wp2
            go_roundw
            case rel => exact ⟨k + 1, (c + da + 0) / 10, by omega, by omega, by go_num, by go_num, HNN.out _ (by go_num)⟩
            case measure => simp [intOf]; omega
        · by_cases kb : k < b.size
          · obtain ⟨jb, hjb⟩ : ∃ jb : Nat, jb + k + 1 = b.size := ⟨b.size - k - 1, by omega⟩
            have hkl : jb < b.size := by omega
            have hkbi : (b.size : Int) - 1 - (k : Int) = (jb : Int) := by omega
            obtain ⟨db, hdb, edb, hxb⟩ := dig_int (List.all_eq_true.1 Hb.out b[jb] (List.getElem_mem (l := bl b) hkl))
            have Eb : Hid (nth (bl b) k = db) := (nth_read b k jb hjb hkl).trans edb
            have ev : IntKind.u8.wrap (48 + (db : Int) - 48) = (db : Int) := by rw [IntKind.wrap_u8]; omega
            clear edb hjb
            have HN := HST.out
            rw [nth_none a k (by omega), Eb.out] at HN
            have HNN : Hid (∀ v : Int, v = 48 + ((c + 0 + db) % 10 : Nat) → Hid (AddR w (bl a) (bl b) n w.heap.size (k + 1) ((c + 0 + db) / 10) (wr.setCell ⟨w.heap.size, q, none⟩ (.int .u8 v)))) := HN
            clear HN HST
            go_wp2
            go_roundw
            case rel => exact ⟨k + 1, (c + 0 + db) / 10, by omega, by omega, by go_num, by go_num, HNN.out _ (by go_num)⟩
            case measure => simp [intOf]; omega
          · exact absurd hlt (by have := Hn.out; omega)
      · have hkn : k = n := by omega
        subst hkn
        obtain ⟨⟨cq, hcell⟩, hfr⟩ := HR1.out.cell 0 (by omega)
        obtain ⟨L, h1, h2, h3⟩ := HR1.out.done (v := 48 + (c : Int)) hna hnb rfl
        have hcv := h1.conv (k + 1) (k + 1) h2
        have H1 : Hid (Below w.heap.size w (wr.setCell ⟨w.heap.size, 0, none⟩ (.int .u8 (48 + (c : Int))))) := h1.1
        have htz := fun W => trimZeros_any (ofl L) W (by show L.length ≤ _; omega)
        have e : ofl (trimZ (bl (ofl L))) = R := by
          rw [← HR.out]
          show ofl (trimZ L) = _
          rw [h3]
        rw [e] at htz
        clear h1 h3 HR1 e HR Ha Hb Hn
        go_wp2_with (go_at_call 17; refine (htz _).mono ?_; rintro e w1 ⟨rfl, hw1⟩; have hw1 := hw1.symm; subst hw1)
        go_ret
        exact ⟨rfl, H1.out⟩
end Go.Proofs.Qxb6603961aDoor
