/-
  Seat b6603961aD: the walk of zzMagSub.
-/
import Derived.Test.Qxb6603961aDoorW3
namespace Go.Proofs.Qxb6603961aDoor
open Go.RowKit Nb

def SubR (w : World) (A B : List UInt8) (n g k bw : Nat) (wr : World) : Prop :=
  ∃ L, Row w g L wr ∧ L.length = n ∧ SubI A B k bw (L.drop (n - k))
theorem SubR.step {w : World} {A B : List UInt8} {n g k bw : Nat} {wr : World} (h : SubR w A B n g k bw wr) {d nb : Nat} (hd : d < 10) (hn : nb ≤ 1) (he : nth A k + nb * 10 = nth B k + bw + d) {q : Nat} (hq : q + k + 1 = n) {v : Int} (hv : v = 48 + (d : Int)) :
    SubR w A B n g (k + 1) nb (wr.setCell ⟨g, q, none⟩ (.int .u8 v)) := by
  obtain ⟨L, h1, h2, h3⟩ := h
  refine ⟨L.set q (UInt8.ofNat (48 + d)), h1.set q _ v (by rw [toNat_dig _ hd, hv]; omega), by rw [List.length_set, h2], ?_⟩
  rw [show n - (k + 1) = q from by omega, set_drop _ _ _ (by omega), show q + 1 = n - k from by omega]
  exact h3.step hd hn he
theorem SubR.cell {w : World} {A B : List UInt8} {n g k bw : Nat} {wr : World} (h : SubR w A B n g k bw wr) (q : Nat) (hq : q < n) : (∃ c, wr.cell? ⟨g, q, none⟩ = some (.int .u8 c)) ∧ wr.frozen? ⟨g, q, none⟩ = false := by
  obtain ⟨L, h1, h2, h3⟩ := h
  exact ⟨⟨_, h1.2.2.1 q (by omega)⟩, h1.2.2.2 q (by omega)⟩
theorem SubR.done {w : World} {A B : List UInt8} {g bw : Nat} {wr : World} (h : SubR w A B A.length g A.length bw wr) (hb : B.length ≤ A.length) (hv : val 0 B ≤ val 0 A) :
    ∃ L, Row w g L wr ∧ L.length = A.length ∧ trimZ L = Lib.decDigits (val 0 A - val 0 B) := by
  obtain ⟨L, h1, h2, h3⟩ := h
  rw [Nat.sub_self, List.drop_zero] at h3
  exact ⟨L, h1, h2, h3.done hb hv⟩

set_option maxHeartbeats 1000000 in
theorem magSub_any (a b : ByteArray) (w : World) (ha : allDig (bl a) = true) (hb : allDig (bl b) = true) (hsa : a.size ≤ 1048577) (hba : b.size ≤ a.size) (hv : val 0 (bl b) ≤ val 0 (bl a)) :
    Calls Tryd.prog 37 #[.string a, .string b] w fun e w' => e = .returned (.string (ofl (Lib.decDigits (val 0 (bl a) - val 0 (bl b))))) ∧ Below w.heap.size w w' := by
  generalize hR : ofl (Lib.decDigits (val 0 (bl a) - val 0 (bl b))) = R
  have HR : Hid (ofl (Lib.decDigits (val 0 (bl a) - val 0 (bl b))) = R) := hR
  have HV : Hid (val 0 (bl b) ≤ val 0 (bl a)) := hv
  clear hR hv
  have Ha : Hid (allDig (bl a) = true) := ha
  have Hb : Hid (allDig (bl b) = true) := hb
  clear ha hb
  have hn2' : (a.size : Int) ≤ 1048577 := by omega
  have hmk := fun W => run_make42 W a.size (by omega)
  clear hsa
  have HS : Hid (SubR w (bl a) (bl b) a.size w.heap.size 0 0 (w.alloc (.cells (farB a.size) 5))) := ⟨_, Row.make w a.size, List.length_replicate, by rw [List.drop_eq_nil_of_le (by rw [List.length_replicate]; omega)]; exact SubI.start _ _⟩
  go_enter Tryd.func37, Tryd.ntmps37
  go_wp2
  go_loopw [6, 7] (fun cv kv wr => ∃ k c : Nat, k ≤ a.size ∧ (c : Int) ≤ 1 ∧ cv = .int .i64 (c : Int) ∧ kv = .int .i64 (k : Int) ∧ Hid (SubR w (bl a) (bl b) a.size w.heap.size k c wr)) (fun _ i _ => a.size - (intOf i).toNat)
  case atStart => exact ⟨0, 0, Nat.zero_le _, by decide, rfl, rfl, HS.out⟩
  case round =>
    clear hmk HS
    obtain ⟨k, c, hk, hc, rfl, rfl, HR1⟩ := hrel
    by_cases hlt : k < a.size
    · obtain ⟨q, hq⟩ : ∃ q : Nat, q + k + 1 = a.size := ⟨a.size - k - 1, by omega⟩
      have hql : q < a.size := by omega
      obtain ⟨⟨cq, hcell⟩, hfr⟩ := HR1.out.cell q hql
      have hqi : (a.size : Int) - 1 - (k : Int) = (q : Int) := by omega
      obtain ⟨da, hda, eda, hxa⟩ := dig_int (List.all_eq_true.1 Ha.out a[q] (List.getElem_mem (l := bl a) hql))
      have Ea : nth (bl a) k = da := (nth_read a k q hq hql).trans eda
      have eu : IntKind.u8.wrap (48 + (da : Int) - 48) = (da : Int) := by rw [IntKind.wrap_u8]; omega
      clear eda
      by_cases kb : k < b.size
      · obtain ⟨jb, hjb⟩ : ∃ jb : Nat, jb + k + 1 = b.size := ⟨b.size - k - 1, by omega⟩
        have hkl : jb < b.size := by omega
        have hkbi : (b.size : Int) - 1 - (k : Int) = (jb : Int) := by omega
        obtain ⟨db, hdb, edb, hxb⟩ := dig_int (List.all_eq_true.1 Hb.out b[jb] (List.getElem_mem (l := bl b) hkl))
        have Eb : nth (bl b) k = db := (nth_read b k jb hjb hkl).trans edb
        have ev : IntKind.u8.wrap (48 + (db : Int) - 48) = (db : Int) := by rw [IntKind.wrap_u8]; omega
        clear edb hjb
        by_cases hng : (da : Int) - (c : Int) - (db : Int) < 0
        · have HN : Hid (∀ v : Int, v = 48 + ((da + 10 - c - db) : Nat) → SubR w (bl a) (bl b) a.size w.heap.size (k + 1) 1 (wr.setCell ⟨w.heap.size, q, none⟩ (.int .u8 v))) := fun v hv => HR1.out.step (d := (da + 10 - c - db)) (nb := 1) (by omega) (by decide) (by rw [Ea, Eb]; omega) hq hv
          clear HR1 Ea Eb
          go_wp2
          go_roundw
          case rel => exact ⟨k + 1, 1, by omega, by decide, rfl, by go_num, HN.out _ (by go_num)⟩
          case measure => simp [intOf]; omega
        · have HN : Hid (∀ v : Int, v = 48 + ((da - c - db) : Nat) → SubR w (bl a) (bl b) a.size w.heap.size (k + 1) 0 (wr.setCell ⟨w.heap.size, q, none⟩ (.int .u8 v))) := fun v hv => HR1.out.step (d := (da - c - db)) (nb := 0) (by omega) (by decide) (by rw [Ea, Eb]; omega) hq hv
          clear HR1 Ea Eb
          go_wp2
          go_roundw
          case rel => exact ⟨k + 1, 0, by omega, by decide, rfl, by go_num, HN.out _ (by go_num)⟩
          case measure => simp [intOf]; omega
      · have Eb : nth (bl b) k = 0 := nth_none b k (by omega)
        by_cases hng : (da : Int) - (c : Int) < 0
        · have HN : Hid (∀ v : Int, v = 48 + ((da + 10 - c - 0) : Nat) → SubR w (bl a) (bl b) a.size w.heap.size (k + 1) 1 (wr.setCell ⟨w.heap.size, q, none⟩ (.int .u8 v))) := fun v hv => HR1.out.step (d := (da + 10 - c - 0)) (nb := 1) (by omega) (by decide) (by rw [Ea, Eb]; omega) hq hv
          clear HR1 Ea Eb
          go_wp2
          go_roundw
          case rel => exact ⟨k + 1, 1, by omega, by decide, rfl, by go_num, HN.out _ (by go_num)⟩
          case measure => simp [intOf]; omega
        · have HN : Hid (∀ v : Int, v = 48 + ((da - c - 0) : Nat) → SubR w (bl a) (bl b) a.size w.heap.size (k + 1) 0 (wr.setCell ⟨w.heap.size, q, none⟩ (.int .u8 v))) := fun v hv => HR1.out.step (d := (da - c - 0)) (nb := 0) (by omega) (by decide) (by rw [Ea, Eb]; omega) hq hv
          clear HR1 Ea Eb
          go_wp2
          go_roundw
          case rel => exact ⟨k + 1, 0, by omega, by decide, rfl, by go_num, HN.out _ (by go_num)⟩
          case measure => simp [intOf]; omega
    · have hkn : k = a.size := by omega
      subst hkn
      obtain ⟨L, h1, h2, h3⟩ := SubR.done (A := bl a) (B := bl b) HR1.out hba HV.out
      have hcv := h1.conv a.size a.size h2
      have H1 : Hid (Below w.heap.size w wr) := h1.1
      have htz := fun W => trimZeros_any (ofl L) W (by show L.length ≤ _; rw [h2, bl_len]; omega)
      have e : ofl (trimZ (bl (ofl L))) = R := by
        rw [← HR.out]
        show ofl (trimZ L) = _
        rw [h3]
      rw [e] at htz
      clear h1 h2 h3 HR1 e HR Ha Hb HV
      go_wp2_with (go_at_call 17; refine (htz _).mono ?_; rintro e w1 ⟨rfl, hw1⟩; have hw1 := hw1.symm; subst hw1)
      go_ret
      exact ⟨rfl, H1.out⟩
end Go.Proofs.Qxb6603961aDoor
