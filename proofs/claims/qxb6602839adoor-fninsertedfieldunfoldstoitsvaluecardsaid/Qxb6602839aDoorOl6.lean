/-
  Seat b6602839aD: the law FnInsertedFieldUnfoldsToItsValue: the walk of zzOffsetList.
-/
import Derived.Test.Qxb6602839aDoorOlV
import Derived.Deep.DeepCutAuto
import Derived.BigRegion
namespace Go.Proofs.Qxb6602839aDoor
open Go.Shelf Go.RowKit

theorem cells_new {a b c : Value} (wr : World) (o : Obj) (T : TypeId) (ho : o = .cells #[a, b, c] T) : ∀ (j : Nat) (u : Value), [a, b, c][j]? = some u → (wr.alloc o).cell? ((⟨wr.heap.size, 0, none⟩ : Addr).add j) = some u := by
  intro j u hu
  subst ho
  have hn := new_block wr (.cells #[a, b, c] T)
  have e : (⟨wr.heap.size, 0, none⟩ : Addr).add j = ⟨wr.heap.size, j, none⟩ := by
    simp only [Addr.add, Nat.zero_add]
    split
    · rename_i h; subst h; rfl
    · rfl
  rw [e, Lib.cell_of_heap hn, ← Array.getElem?_toList]
  exact hu
theorem three_one (hd : Int) (p : Option Addr) (m : Nat) : ∀ u, u ∈ [Value.int .i64 hd, nilS, .slice p m m] → u.oneCell' = true := by
  intro u hu
  simp only [List.mem_cons, List.mem_nil_iff, or_false] at hu
  rcases hu with rfl | rfl | rfl <;> rfl

set_option maxHeartbeats 4000000 in
set_option maxRecDepth 50000 in
theorem offsetList_any (pi : Option Addr) (n c : Nat) (bs : List Int) (w : World) (h : SlI w w.heap.size pi n bs) (hn : n ≤ 1048576) (hb : ∀ j (hj : j < bs.length), 0 ≤ bs[j] ∧ bs[j] ≤ 1048576) :
    Calls Tryd.prog 21 #[.slice pi n c] w fun e w' => OlPost bs e w' ∧ Below w.heap.size w w' := by
  have HS : Hid (SlI w w.heap.size pi n bs) := h
  have HB : Hid (∀ j (hj : j < bs.length), 0 ≤ bs[j] ∧ bs[j] ≤ 1048576) := hb
  have hst := OlRel.start w bs
  unfold zero48 at hst
  have HST : Hid (OlRel w bs 0 ((w.alloc (.cells #[.int .i64 0, nilS, nilS, nilS] 48)).alloc (.cells #[.int .i64 0, nilS, nilS, nilS] 48))) := hst
  clear h hb hst
  go_enter Tryd.func21, Tryd.ntmps21
  go_wp2
  go_loopw [4] (fun i wr => ∃ k K : Nat, i = .int .i64 (K : Int) ∧ TimesIs K k ∧ OlRel w bs k wr ∧ LastIs k n) (fun i _ => n + 1024 - (intOf i).toNat)
  case atStart => exact ⟨0, 0, rfl, rfl, HST.out, Or.inl rfl⟩
  case round =>
    obtain ⟨k, K, rfl, HK, HR, hkn⟩ := hrel
    obtain ⟨w0, hw0⟩ : ∃ w0, w0 = wr := ⟨_, rfl⟩
    subst hw0
    clear HST
    by_cases hlt : K < n
    · have hlen := HS.out.1.1
      obtain ⟨b, o, hp, hcell⟩ := HS.out.1.2.2 (by omega)
      subst hp
      have hbB : b < w.heap.size := HS.out.2 _ rfl
      have hkl : K < bs.length := by omega
      have hsl := seg_len bs k
      have hhd := seg_head bs k (by rw [← HK.out]; exact hkl)
      have hrd : w0.cell? ⟨b, o + K, none⟩ = some (.int .i64 bs[K]) := (HR.1.cell (p := ⟨b, o + K, none⟩) hbB).trans (hcell K hkl)
      have hrd1 : ∀ o1, (w0.alloc o1).cell? ⟨b, o + K, none⟩ = some (.int .i64 bs[K]) := fun o1 => below_cell (lit_below w0 o1) hrd
      have hrd2 : ∀ o1 o2, ((w0.alloc o1).alloc o2).cell? ⟨b, o + K, none⟩ = some (.int .i64 bs[K]) := fun o1 o2 => below_cell (lit_below _ o2) (hrd1 o1)
      have hhd' : (seg bs k).head? = some bs[K] := by
        have hk := HK.out
        subst hk
        exact hhd
      have HHd : Hid ((seg bs k).head? = some bs[K]) := hhd'
      have hKb : K ≤ 1048576 := by omega
      obtain ⟨m, hm⟩ : ∃ m, (seg bs k).length = m := ⟨_, rfl⟩
      have hmn : m = min 1024 (n - K) := by have := HK.out; omega
      have HM : Hid ((seg bs k).length = m ∧ MinIs m n K) := ⟨hm, hmn⟩
      have hm2 : m ≤ 1048576 := by omega
      have HCell : Hid (∀ i (hi : i < bs.length), w.cell? ⟨b, o + i, none⟩ = some (.int .i64 bs[i])) := hcell
      have HLen : Hid (bs.length = n) := hlen
      clear hm hmn hsl hhd hhd' hcell hlen
      by_cases hJ : (n : Int) < (K : Int) + 1024
      · have hJx : True := trivial
        clear hJx
        have hJ1 : (n : Int) ≤ (K : Int) + (m : Int) := by have := HM.out.2.out; omega
        have hJ2 : (K : Int) + (m : Int) ≤ (n : Int) := by have := HM.out.2.out; omega
        have hmk := fun W => run_make26 W m (by omega)
        have ew : IntKind.i64.wrap ((n : Int) - (K : Int)) = (m : Int) := by rw [IntKind.wrap_i64]; omega
        go_wp2
        clear hJ
        go_cut [6] (fun s6 wx => ∃ C g, s6 = .pointer (some ⟨C, 0, none⟩) ∧ InRel w w0 bs k C g 0 wx)
        case first =>
          go_region
          all_goals go_wp2_with fail
          all_goals go_meet
          · exact ⟨_, _, rfl, (inA HR HHd.out HM.out.1).drew⟩
          · exact ⟨_, _, rfl, (inB HR HHd.out HM.out.1).drew⟩
        case rest =>
          obtain ⟨C, g, rfl, HI⟩ := hcut
          clear hmk ew hrd1 hrd2
          go_wp2
          go_loopw [7] (fun q wr => ∃ j : Nat, j ≤ m ∧ q = .int .i64 ((K : Int) + (j : Int)) ∧ InRel w w0 bs k C g j wr) (fun q _ => (K + m) - (intOf q).toNat)
          case atStart => exact ⟨0, Nat.zero_le _, by simp, HI⟩
          case round =>
            clear HI
            obtain ⟨j, hj, rfl, HI⟩ := hrel
            by_cases hjm : j < m
            · have hjl : j < (seg bs k).length := by rw [HM.out.1]; exact hjm
              have hKj : K + j < bs.length := by have h1 := HM.out.2.out; have h2 := HLen.out; omega
              have hbw : Below w.heap.size w wr := HI.1.1.trans (HI.2.1.mono HI.1.1.size)
              have r1 : wr.cell? ⟨b, o + (K + j), none⟩ = some (.int .i64 bs[K + j]) := (hbw.cell (p := ⟨b, o + (K + j), none⟩) hbB).trans (HCell.out (K + j) hKj)
              have r2 : wr.cell? ⟨b, o + K, none⟩ = some (.int .i64 bs[K]) := (hbw.cell (p := ⟨b, o + K, none⟩) hbB).trans (HCell.out K hkl)
              have e1 : (seg bs k)[j] = bs[K + j] := by
                have hk := HK.out
                subst hk
                exact seg_at bs k j hjl hKj
              have HN := HI.step hjl bs[K] HHd.out
              rw [e1] at HN
              have bx := HB.out (K + j) hKj
              have bk := HB.out K hkl
              have hbox := HI.box
              rw [HM.out.1] at hbox
              obtain ⟨v, hcv⟩ := HI.cell j hjl
              have hfr := HI.frozen j
              obtain ⟨x, hx⟩ : ∃ x, x = bs[K + j] := ⟨_, rfl⟩
              obtain ⟨y, hy⟩ : ∃ y, y = bs[K] := ⟨_, rfl⟩
              rw [← hx] at HN r1 bx
              rw [← hy] at HN r2 bk
              have HN' : Hid (InRel w w0 bs k C g (j + 1) (wr.setCell ⟨g, j, none⟩ (.int .i64 (x - y)))) := HN
              have ei : IntKind.i64.wrap ((K : Int) + (j : Int) - (K : Int)) = (j : Int) := by rw [IntKind.wrap_i64]; omega
              have ev : IntKind.i64.wrap (x - y) = x - y := by rw [IntKind.wrap_i64]; omega
              have hkj' : (K : Int) + (j : Int) < (n : Int) := by have := HLen.out; omega
              clear HN HI e1 hx hy hbw hjl hKj hrd
              go_wp2
              go_region
              go_wp2
              go_roundw
              case rel => exact ⟨j + 1, by omega, by go_num, HN'.out.drew⟩
              case measure => simp [intOf]; omega
            · have hjm' : j = m := by omega
              subst hjm'
              have hfull : InRel w w0 bs k C g (seg bs k).length wr := by rw [HM.out.1]; exact HI
              obtain ⟨hd, e0, b0, b1, b2, hf, ho, hL, hg⟩ := hfull.done
              obtain ⟨hbw, -, l0, l1, l2, l3, xs, hl, hown, hz, -, hch⟩ := ho
              have cl0 : wr.cell? ⟨w.heap.size + 1, 0, none⟩ = some l0 := by rw [Lib.cell_of_heap hl]; rfl
              have cl1 : wr.cell? ⟨w.heap.size + 1, 1, none⟩ = some l1 := by rw [Lib.cell_of_heap hl]; rfl
              have cl2 : wr.cell? ⟨w.heap.size + 1, 2, none⟩ = some l2 := by rw [Lib.cell_of_heap hl]; rfl
              have cl3 : wr.cell? ⟨w.heap.size + 1, 3, none⟩ = some l3 := by rw [Lib.cell_of_heap hl]; rfl
              have fz : ∀ q, wr.frozen? ⟨w.heap.size + 1, q, none⟩ = false := fun q => Lib.frozen_of_heap hl q
              have HLast : LastIs (k + 1) n := Or.inr (by have := HK.out; omega)
              have HKn : TimesIs (K + 1024) (k + 1) := by have := HK.out; show _ = _; omega
              by_cases hk0 : k = 0
              · subst hk0
                have HN := hfull.first e0
                rw [HM.out.1] at HN b2
                have HN' : Hid (OlRel w bs (0 + 1) (((wr.setCell ⟨w.heap.size + 1, 0, none⟩ (.int .i64 hd)).setCell ⟨w.heap.size + 1, 1, none⟩ nilS).setCell ⟨w.heap.size + 1, 2, none⟩ (.slice (some ⟨g, 0, none⟩) j j))) := HN
                have hK0 : ((K : Int) == 0) = true := beq_iff_eq.2 (by have := HK.out; omega)
                clear HN HI hfull hf hown hz hch hl hrd e0
                go_wp2
                go_roundw
                case rel => exact ⟨0 + 1, K + 1024, congrArg (Value.int .i64) (by omega), HKn, HN'.out, HLast⟩
                case measure => simp only [intOf]; omega
              · obtain ⟨k', rfl⟩ : ∃ k', k = k' + 1 := ⟨k - 1, by omega⟩
                obtain ⟨i0, hi, hz0, hz1, hz2⟩ := info_parts info45
                rw [show k' + 1 - 1 = k' from by omega] at hown
                have hK0 : ((K : Int) == 0) = false := beq_eq_false_iff_ne.2 (by have := HK.out; omega)
                have hk'b : k' ≤ 1048576 := by have := HK.out; omega
                have hws : w.heap.size ≤ wr.heap.size := hbw.size
                rw [HM.out.1] at b2
                have HNx : NextOk w wr bs k' g j hd l3 xs := by
                  intro v' w1 ob ho' hgr
                  have hq := HM.out.1
                  rw [← hq] at ho'
                  exact hfull.next e0 cl3 hown hch ho' hgr
                have HNc := nextCell hl hown
                clear HI hfull hf hz hch hl hrd e0 HCell HLen hkn HHd HM HB HR HS hm2
                go_wp2_with (at_builtin; refine wpList_append_own _ rfl _ _ 46 rfl w.heap.size 45 i0 _ 3 56 Tryd.underlying46 hi hz0 hz1 hz2 rfl (by decide) _ _ _ rfl (hown.alloc _) ⟨wr.heap.size, 0, none⟩ 1 1 [.int .i64 hd, nilS, .slice (some ⟨g, 0, none⟩) j j] rfl rfl ?c1 ?c2 ?c3 ?c4 ?c5 ?_)
                case c1 => exact cells_new wr _ 45 rfl
                case c2 => exact three_one _ _ _
                case c3 => simp only [maxLen]; omega
                case c4 => omega
                case c5 => exact Nat.le_trans hws (lit_below wr _).size
                intro v' w1 ho' hgr _
                obtain ⟨g', cap', hv⟩ : ∃ g' cap', v' = .slice (some ⟨g', 0, none⟩) (k' + 1) cap' := by
                  rcases ho'.2 with ⟨_, h0⟩ | ⟨g', cap', cur', hv, _⟩
                  · exact absurd h0 (Nat.succ_ne_zero _)
                  · exact ⟨g', cap', hv⟩
                subst hv
                have hL1 := HNc w1 _ hgr
                have hc3 : w1.cell? ⟨w.heap.size + 1, 3, none⟩ = some l3 := by rw [Lib.cell_of_heap hL1]; rfl
                have hf3 : w1.frozen? ⟨w.heap.size + 1, 3, none⟩ = false := Lib.frozen_of_heap hL1 3
                have HN2 : Hid (OlRel w bs (k' + 1 + 1) (w1.setCell ⟨w.heap.size + 1, 3, none⟩ (.slice (some ⟨g', 0, none⟩) (k' + 1) cap'))) := HNx _ w1 _ ho' hgr
                clear hL1 HNc HNx ho' hgr hown hi hz0 hz1 hz2 cl0 cl1 cl2 cl3 fz b0 b1 b2
                go_wp2
                go_roundw
                case rel => exact ⟨k' + 1 + 1, K + 1024, congrArg (Value.int .i64) (by omega), HKn, HN2.out, HLast⟩
                case measure => simp only [intOf]; omega
      · have HJ : Hid (¬ (n : Int) < (K : Int) + 1024) := hJ
        go_wp2
        obtain ⟨J, hJe⟩ : ∃ J : Int, J = (K : Int) + 1024 := ⟨_, rfl⟩
        rw [← hJe]
        have hJ1 : J ≤ (K : Int) + (m : Int) := by have := HM.out.2.out; omega
        have hJ2 : (K : Int) + (m : Int) ≤ J := by have := HM.out.2.out; omega
        have hmk := fun W => run_make26 W m (by omega)
        have ew : IntKind.i64.wrap (J - (K : Int)) = (m : Int) := by rw [IntKind.wrap_i64]; omega
        have hnJ : J ≤ (n : Int) := by omega
        clear hJe hJ
        go_cut [6] (fun s6 wx => ∃ C g, s6 = .pointer (some ⟨C, 0, none⟩) ∧ InRel w w0 bs k C g 0 wx)
        case first =>
          go_region
          all_goals go_wp2_with fail
          all_goals go_meet
          · exact ⟨_, _, rfl, (inA HR HHd.out HM.out.1).drew⟩
          · exact ⟨_, _, rfl, (inB HR HHd.out HM.out.1).drew⟩
        case rest =>
          obtain ⟨C, g, rfl, HI⟩ := hcut
          clear hmk ew hrd1 hrd2
          go_wp2
          go_loopw [7] (fun q wr => ∃ j : Nat, j ≤ m ∧ q = .int .i64 ((K : Int) + (j : Int)) ∧ InRel w w0 bs k C g j wr) (fun q _ => (K + m) - (intOf q).toNat)
          case atStart => exact ⟨0, Nat.zero_le _, by simp, HI⟩
          case round =>
            clear HI
            obtain ⟨j, hj, rfl, HI⟩ := hrel
            by_cases hjm : j < m
            · have hjl : j < (seg bs k).length := by rw [HM.out.1]; exact hjm
              have hKj : K + j < bs.length := by have h1 := HM.out.2.out; have h2 := HLen.out; omega
              have hbw : Below w.heap.size w wr := HI.1.1.trans (HI.2.1.mono HI.1.1.size)
              have r1 : wr.cell? ⟨b, o + (K + j), none⟩ = some (.int .i64 bs[K + j]) := (hbw.cell (p := ⟨b, o + (K + j), none⟩) hbB).trans (HCell.out (K + j) hKj)
              have r2 : wr.cell? ⟨b, o + K, none⟩ = some (.int .i64 bs[K]) := (hbw.cell (p := ⟨b, o + K, none⟩) hbB).trans (HCell.out K hkl)
              have e1 : (seg bs k)[j] = bs[K + j] := by
                have hk := HK.out
                subst hk
                exact seg_at bs k j hjl hKj
              have HN := HI.step hjl bs[K] HHd.out
              rw [e1] at HN
              have bx := HB.out (K + j) hKj
              have bk := HB.out K hkl
              have hbox := HI.box
              rw [HM.out.1] at hbox
              obtain ⟨v, hcv⟩ := HI.cell j hjl
              have hfr := HI.frozen j
              obtain ⟨x, hx⟩ : ∃ x, x = bs[K + j] := ⟨_, rfl⟩
              obtain ⟨y, hy⟩ : ∃ y, y = bs[K] := ⟨_, rfl⟩
              rw [← hx] at HN r1 bx
              rw [← hy] at HN r2 bk
              have HN' : Hid (InRel w w0 bs k C g (j + 1) (wr.setCell ⟨g, j, none⟩ (.int .i64 (x - y)))) := HN
              have ei : IntKind.i64.wrap ((K : Int) + (j : Int) - (K : Int)) = (j : Int) := by rw [IntKind.wrap_i64]; omega
              have ev : IntKind.i64.wrap (x - y) = x - y := by rw [IntKind.wrap_i64]; omega
              have hkj' : (K : Int) + (j : Int) < (n : Int) := by have := HLen.out; omega
              clear HN HI e1 hx hy hbw hjl hKj hrd
              go_wp2
              go_region
              go_wp2
              go_roundw
              case rel => exact ⟨j + 1, by omega, by go_num, HN'.out.drew⟩
              case measure => simp [intOf]; omega
            · have hjm' : j = m := by omega
              subst hjm'
              have hfull : InRel w w0 bs k C g (seg bs k).length wr := by rw [HM.out.1]; exact HI
              obtain ⟨hd, e0, b0, b1, b2, hf, ho, hL, hg⟩ := hfull.done
              obtain ⟨hbw, -, l0, l1, l2, l3, xs, hl, hown, hz, -, hch⟩ := ho
              have cl0 : wr.cell? ⟨w.heap.size + 1, 0, none⟩ = some l0 := by rw [Lib.cell_of_heap hl]; rfl
              have cl1 : wr.cell? ⟨w.heap.size + 1, 1, none⟩ = some l1 := by rw [Lib.cell_of_heap hl]; rfl
              have cl2 : wr.cell? ⟨w.heap.size + 1, 2, none⟩ = some l2 := by rw [Lib.cell_of_heap hl]; rfl
              have cl3 : wr.cell? ⟨w.heap.size + 1, 3, none⟩ = some l3 := by rw [Lib.cell_of_heap hl]; rfl
              have fz : ∀ q, wr.frozen? ⟨w.heap.size + 1, q, none⟩ = false := fun q => Lib.frozen_of_heap hl q
              have HLast : LastIs (k + 1) n := Or.inr (by have := HK.out; omega)
              have HKn : TimesIs (K + 1024) (k + 1) := by have := HK.out; show _ = _; omega
              by_cases hk0 : k = 0
              · subst hk0
                have HN := hfull.first e0
                rw [HM.out.1] at HN b2
                have HN' : Hid (OlRel w bs (0 + 1) (((wr.setCell ⟨w.heap.size + 1, 0, none⟩ (.int .i64 hd)).setCell ⟨w.heap.size + 1, 1, none⟩ nilS).setCell ⟨w.heap.size + 1, 2, none⟩ (.slice (some ⟨g, 0, none⟩) j j))) := HN
                have hK0 : ((K : Int) == 0) = true := beq_iff_eq.2 (by have := HK.out; omega)
                clear HN HI hfull hf hown hz hch hl hrd e0
                go_wp2
                go_roundw
                case rel => exact ⟨0 + 1, K + 1024, congrArg (Value.int .i64) (by omega), HKn, HN'.out, HLast⟩
                case measure => simp only [intOf]; omega
              · obtain ⟨k', rfl⟩ : ∃ k', k = k' + 1 := ⟨k - 1, by omega⟩
                obtain ⟨i0, hi, hz0, hz1, hz2⟩ := info_parts info45
                rw [show k' + 1 - 1 = k' from by omega] at hown
                have hK0 : ((K : Int) == 0) = false := beq_eq_false_iff_ne.2 (by have := HK.out; omega)
                have hk'b : k' ≤ 1048576 := by have := HK.out; omega
                have hws : w.heap.size ≤ wr.heap.size := hbw.size
                rw [HM.out.1] at b2
                have HNx : NextOk w wr bs k' g j hd l3 xs := by
                  intro v' w1 ob ho' hgr
                  have hq := HM.out.1
                  rw [← hq] at ho'
                  exact hfull.next e0 cl3 hown hch ho' hgr
                have HNc := nextCell hl hown
                clear HI hfull hf hz hch hl hrd e0 HCell HLen hkn HHd HM HB HR HS hm2
                go_wp2_with (at_builtin; refine wpList_append_own _ rfl _ _ 46 rfl w.heap.size 45 i0 _ 3 56 Tryd.underlying46 hi hz0 hz1 hz2 rfl (by decide) _ _ _ rfl (hown.alloc _) ⟨wr.heap.size, 0, none⟩ 1 1 [.int .i64 hd, nilS, .slice (some ⟨g, 0, none⟩) j j] rfl rfl ?c1 ?c2 ?c3 ?c4 ?c5 ?_)
                case c1 => exact cells_new wr _ 45 rfl
                case c2 => exact three_one _ _ _
                case c3 => simp only [maxLen]; omega
                case c4 => omega
                case c5 => exact Nat.le_trans hws (lit_below wr _).size
                intro v' w1 ho' hgr _
                obtain ⟨g', cap', hv⟩ : ∃ g' cap', v' = .slice (some ⟨g', 0, none⟩) (k' + 1) cap' := by
                  rcases ho'.2 with ⟨_, h0⟩ | ⟨g', cap', cur', hv, _⟩
                  · exact absurd h0 (Nat.succ_ne_zero _)
                  · exact ⟨g', cap', hv⟩
                subst hv
                have hL1 := HNc w1 _ hgr
                have hc3 : w1.cell? ⟨w.heap.size + 1, 3, none⟩ = some l3 := by rw [Lib.cell_of_heap hL1]; rfl
                have hf3 : w1.frozen? ⟨w.heap.size + 1, 3, none⟩ = false := Lib.frozen_of_heap hL1 3
                have HN2 : Hid (OlRel w bs (k' + 1 + 1) (w1.setCell ⟨w.heap.size + 1, 3, none⟩ (.slice (some ⟨g', 0, none⟩) (k' + 1) cap'))) := HNx _ w1 _ ho' hgr
                clear hL1 HNc HNx ho' hgr hown hi hz0 hz1 hz2 cl0 cl1 cl2 cl3 fz b0 b1 b2
                go_wp2
                go_roundw
                case rel => exact ⟨k' + 1 + 1, K + 1024, congrArg (Value.int .i64) (by omega), HKn, HN2.out, HLast⟩
                case measure => simp only [intOf]; omega
    · have hkn2 : n ≤ k * 1024 := by have := HK.out; omega
      have hlen := HS.out.1.1
      have HV : Hid (∀ c0 c1 c2 c3 wr', w0.heap[w.heap.size + 1]? = some (.cells #[c0, c1, c2, c3] 48 (0, 0)) → (∀ b, b ≠ w.heap.size → wr'.heap[b]? = w0.heap[b]?) → OlVal wr' wr'.heap.size c0 c1 c2 c3 bs) := fun c0 c1 c2 c3 wr' e1 e2 => HR.val e1 hlen hkn2 hkn e2
      have hsh := fun c0 c1 c2 c3 hl => HR.shape (c0 := c0) (c1 := c1) (c2 := c2) (c3 := c3) hl
      obtain ⟨hbw, hR, c0, c1, c2, c3, xs, hl, -⟩ := HR
      obtain ⟨hd, p, a, b, p', a', b', rfl, rfl, rfl, rfl⟩ := hsh c0 c1 c2 c3 hl
      clear hsh
      have cl0 : w0.cell? ⟨w.heap.size + 1, 0, none⟩ = some (.int .i64 hd) := by rw [Lib.cell_of_heap hl]; rfl
      have cl1 : w0.cell? ⟨w.heap.size + 1, 1, none⟩ = some nilS := by rw [Lib.cell_of_heap hl]; rfl
      have cl2 : w0.cell? ⟨w.heap.size + 1, 2, none⟩ = some (.slice p a b) := by rw [Lib.cell_of_heap hl]; rfl
      have cl3 : w0.cell? ⟨w.heap.size + 1, 3, none⟩ = some (.slice p' a' b') := by rw [Lib.cell_of_heap hl]; rfl
      have HL : Hid (w0.heap[w.heap.size + 1]? = some (.cells #[.int .i64 hd, .slice none 0 0, .slice p a b, .slice p' a' b'] 48 (0, 0))) := hl
      have HBw : Hid (Below w.heap.size w w0) := hbw
      have hlt' : (n : Int) ≤ (K : Int) := by omega
      have r0 : w0.cell? ⟨w.heap.size, 0, none⟩ = some (.int .i64 0) := by rw [Lib.cell_of_heap hR]; rfl
      have r1 : w0.cell? ⟨w.heap.size, 1, none⟩ = some nilS := by rw [Lib.cell_of_heap hR]; rfl
      have r2 : w0.cell? ⟨w.heap.size, 2, none⟩ = some nilS := by rw [Lib.cell_of_heap hR]; rfl
      have r3 : w0.cell? ⟨w.heap.size, 3, none⟩ = some nilS := by rw [Lib.cell_of_heap hR]; rfl
      have fz : ∀ q, w0.frozen? ⟨w.heap.size, q, none⟩ = false := fun q => Lib.frozen_of_heap hR q
      have HR : Hid (w0.heap[w.heap.size]? = some (.cells #[.int .i64 0, nilS, nilS, nilS] 48 (0, 0))) := hR
      clear hl hbw hkn2 hkn hlen HK HS HB hlt hR
      go_wp2
      obtain ⟨wf, hwf⟩ : ∃ wf, wf = (((w0.setCell ⟨w.heap.size, 0, none⟩ (.int .i64 hd)).setCell ⟨w.heap.size, 1, none⟩ (.slice none 0 0)).setCell ⟨w.heap.size, 2, none⟩ (.slice p a b)).setCell ⟨w.heap.size, 3, none⟩ (.slice p' a' b') := ⟨_, rfl⟩
      have hRf : wf.heap[w.heap.size]? = some (.cells #[.int .i64 hd, .slice none 0 0, .slice p a b, .slice p' a' b'] 48 (0, 0)) := by
        rw [hwf]
        exact set_same (set_same (set_same (set_same HR.out)))
      have hoth : ∀ b, b ≠ w.heap.size → wf.heap[b]? = w0.heap[b]? := by
        intro b hb
        rw [hwf, set_other hb, set_other hb, set_other hb, set_other hb]
      have hbel : Below w.heap.size w wf := by
        rw [hwf]
        exact (((HBw.out.setCell (p := ⟨w.heap.size, 0, none⟩) (Nat.le_refl _) _).setCell (p := ⟨w.heap.size, 1, none⟩) (Nat.le_refl _) _).setCell (p := ⟨w.heap.size, 2, none⟩) (Nat.le_refl _) _).setCell (p := ⟨w.heap.size, 3, none⟩) (Nat.le_refl _) _
      have f0 : wf.cell? ⟨w.heap.size, 0, none⟩ = some (.int .i64 hd) := by rw [Lib.cell_of_heap hRf]; rfl
      have f1 : wf.cell? ⟨w.heap.size, 1, none⟩ = some (.slice none 0 0) := by rw [Lib.cell_of_heap hRf]; rfl
      have f2 : wf.cell? ⟨w.heap.size, 2, none⟩ = some (.slice p a b) := by rw [Lib.cell_of_heap hRf]; rfl
      have f3 : wf.cell? ⟨w.heap.size, 3, none⟩ = some (.slice p' a' b') := by rw [Lib.cell_of_heap hRf]; rfl
      have hpost : OlPost bs (.returned (.agg #[.int .i64 hd, .slice none 0 0, .slice p a b, .slice p' a' b'])) wf := ⟨_, _, _, _, rfl, HV.out _ _ _ _ wf HL.out hoth⟩
      rw [← hwf]
      clear hwf HV HL hoth hRf
      refine bodyPost_ret (v := .agg #[.int .i64 hd, .slice none 0 0, .slice p a b, .slice p' a' b']) (by simp [results, Tryd.results21, go_sem, f0, f1, f2, f3]) rfl ⟨hpost, hbel⟩
end Go.Proofs.Qxb6602839aDoor
