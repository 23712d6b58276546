/-
  Seat b6602839aD: the law FnInsertedFieldUnfoldsToItsValue: the walk of insertField.
-/
import Derived.Test.Qxb6602839aDoorSp1
import Derived.BigQuiet
import Derived.Deep.DeepCutAuto
import Derived.Deep.CutBlock
import Derived.Deep.RegionLaw
namespace Go.Proofs.Qxb6602839aDoor
open Go.Shelf Go.RowKit

theorem step_append_own {P : Program} {ops : Array Oper} {o : Oper} {a : Act} {w : World} {K : Act → World → Prop} {Q : Exit → Act → World → Prop} {E : Prop} (hgd : o.guard = none) (s x : Operand) (t : TypeId)
    (ho : o.op = .call { callee := .builtin .append, args := #[s, x], argTypes := #[t, t] })
    (base : Nat) (e : TypeId) (i : TypeInfo) (z : Value) (size bytes : Nat) (ht : P.underlying t = some (.slice e)) (hi : P.info? e = some i) (hz : i.zero = some z)
    (hsize : i.size = size) (hby : i.bytes = bytes) (hzs : z.cells.size = size) (hsz : 0 < size)
    (v : Value) (n : Nat) (xs : List Value) (hs : a.eval s = v) (hown : w.ownsRow base e size v n xs)
    (ad : Addr) (m c : Nat) (news : List Value) (hx : a.eval x = .slice (some ad) m c) (hl : news.length = m * size) (hnews : ∀ j u, news[j]? = some u → w.cell? (ad.add j) = some u) (h1 : ∀ u ∈ news, u.oneCell' = true)
    (h63 : n + m ≤ maxLen) (hbytes : (n + m) * bytes ≤ 140737488355328) (hbase : base ≤ w.heap.size)
    (h : ∀ v' w', w'.ownsRow base e size v' (n + m) (xs ++ news) → w.grownBy w' v.ownBlock → K (a.put o.dst v') w') :
    if Region.wanted o (yielded ops a.tmps) = true then Oper.wp P o a w K Q else E := by
  have hw : Region.wanted o (yielded ops a.tmps) = true := by simp [Region.wanted, hgd]
  rw [if_pos hw]
  exact wp_append_own w s x t ho base e i z size bytes ht hi hz hsize hby hzs hsz v n xs hs hown ad m c news hx hl hnews h1 h63 hbytes hbase fun v' w' h2 h3 _ => h v' w' h2 h3

theorem spNews {w w1 W3 : World} {E m : Nat} {news : List UInt8} {p' : Option Addr} {c' : Nat} {y a1 : Int} (h : SpRel w E [] [] none 0 none 0 y a1 W3) (hl : news.length = m) (ho : w1.ownsRow w.heap.size 5 1 (.slice p' (0 + m) c') (0 + m) ([] ++ Lib.byteCells news)) (hg : W3.drew.grownBy w1 (Value.slice none 0 0).ownBlock) :
    SpRel w E news [] p' c' none 0 y a1 (w1.setCell ⟨E, 2, none⟩ (.slice p' m c')) := by
  subst hl
  rw [Nat.zero_add] at ho
  exact h.bytes (acc := []) (t := news) (Below.refl _ _).drew ho hg

theorem one_new {a : Value} (wr : World) (o : Obj) (T : TypeId) (ho : o = .cells #[a] T) : ∀ (j : Nat) (u : Value), [a][j]? = some u → (wr.alloc o).cell? ((⟨wr.heap.size, 0, none⟩ : Addr).add j) = some u := by
  intro j u hu
  subst ho
  have hn := new_block wr (.cells #[a] T)
  have e : (⟨wr.heap.size, 0, none⟩ : Addr).add j = ⟨wr.heap.size, j, none⟩ := by
    simp only [Addr.add, Nat.zero_add]
    split
    · rename_i h; subst h; rfl
    · rfl
  rw [e, Lib.cell_of_heap hn, ← Array.getElem?_toList]
  exact hu
theorem one_one (x : Int) : ∀ u, u ∈ [Value.int .i64 x] → u.oneCell' = true := by
  intro u hu
  simp only [List.mem_cons, List.mem_nil_iff, or_false] at hu
  subst hu
  rfl

def InW (w wx : World) : Prop := Below w.heap.size w wx ∧ wx.heap[w.heap.size]? = some zero40
theorem InW.start (w : World) : InW w (w.alloc zero40) := ⟨lit_below w _, new_block w _⟩
theorem InW.below {w wx wy : World} (h : InW w wx) (hb : Below wx.heap.size wx wy) : InW w wy := ⟨below_up h.1 hb, (hb.block _ (lt_of_block h.2)).trans h.2⟩
theorem InW.drew {w wx : World} (h : InW w wx) : InW w wx.drew := ⟨h.1.drew, h.2⟩
theorem InW.drewN {w wx : World} (h : InW w wx) (q : Nat) : InW w (wx.drewN q) := ⟨below_dN h.1 q, h.2⟩
def IsLe (le : ByteArray) : Prop := le = ⟨#[13, 10]⟩ ∨ le = ⟨#[10]⟩
theorem atOf_le {nb : Nat} {raw : List UInt8} {bs : List Int} (h : Good nb raw bs) : atOf nb raw bs ≤ raw.length := by
  obtain ⟨h1, h2, -, -⟩ := h
  unfold atOf
  split
  · rename_i h
    rw [List.getD_eq_getElem?_getD, List.getElem?_eq_getElem (by omega)]
    exact (h2 _ _).2
  · split
    · rename_i h
      have := congrArg List.length (Uf.line_split raw h)
      rw [List.length_append, List.length_cons] at this
      omega
    · omega

set_option maxHeartbeats 4000000 in
set_option maxRecDepth 50000 in
theorem insertField_any (M : Nat) (st nm vl : ByteArray) (pb pr : Option Addr) (nb cb nr cr : Nat) (raw : List UInt8) (bs : List Int) (w : World) (hM : M < w.heap.size)
    (c0 : w.cell? ⟨M, 0, none⟩ = some (.string st)) (c1 : w.cell? ⟨M, 1, none⟩ = some (.slice pb nb cb)) (c2 : w.cell? ⟨M, 2, none⟩ = some (.slice pr nr cr)) (hO : OL w w.heap.size M 3 bs) (hS : Sl w w.heap.size pr nr cr raw) (hG : Good nb raw bs)
    (h1 : st.size ≤ 1048576) (h2 : nr ≤ 1048576) (h3 : bs.length ≤ 1048576) (h4 : nm.size ≤ 1048576) (h5 : vl.size ≤ 1048576) :
    Calls Tryd.prog 20 #[.pointer (some ⟨M, 0, none⟩), .string nm, .string vl] w fun e w' => InfPost nm.data.toList vl.data.toList e w' ∧ Below w.heap.size w w' := by
  have hb0 : Below w.heap.size w (w.alloc zero40) := lit_below w _
  have HG : Hid (Good nb raw bs) := hG
  have HO : Hid (OL w w.heap.size M 3 bs) := hO
  have HS : Hid (Sl w w.heap.size pr nr cr raw) := hS
  have HC : Hid (w.cell? ⟨M, 0, none⟩ = some (.string st) ∧ w.cell? ⟨M, 1, none⟩ = some (.slice pb nb cb) ∧ w.cell? ⟨M, 2, none⟩ = some (.slice pr nr cr)) := ⟨c0, c1, c2⟩
  have d0 := below_cell hb0 c0
  have d1 := below_cell hb0 c1
  have d2 := below_cell hb0 c2
  unfold zero40 at d0 d1 d2
  clear hO hS hG c0 c1 c2 hb0
  go_enter Tryd.func20, Tryd.ntmps20
  go_upto_region 2 with fail
  have hW0 := InW.start w
  unfold zero40 at hW0
  go_cut [36] (fun s36 wx => (∃ b, s36 = .bool b) ∧ InW w wx)
  case first =>
    by_cases k1 : (st.size : Int) < (nr : Int)
    · have hlen := HS.out.1
      obtain ⟨b, o, hp, hcell⟩ := HS.out.2.2.2.2.2 (by omega)
      subst hp
      have hk : st.size < raw.length := by omega
      have hrd := below_cell (InW.start w).1 (hcell st.size hk)
      unfold zero40 at hrd
      obtain ⟨x, hx⟩ : ∃ x : Int, x = (raw[st.size].toNat : Int) := ⟨_, rfl⟩
      rw [← hx] at hrd
      clear hcell hx hk hlen
      have HW : Hid (InW w (w.alloc (.cells #[.int .i64 0, .int .i64 0, nilS, nilS] 40))) := hW0
      clear hW0
      cases h10 : (x == 10)
      · go_quiet (fail)
        go_wp2
        go_meet
        exact ⟨⟨_, rfl⟩, HW.out.drewN _⟩
      · go_quiet (fail)
        go_wp2
        go_meet
        exact ⟨⟨_, rfl⟩, HW.out.drewN _⟩
    · have HW : Hid (InW w (w.alloc (.cells #[.int .i64 0, .int .i64 0, nilS, nilS] 40))) := hW0
      clear hW0
      have k2 : decide ((st.size : Int) < (nr : Int)) = false := decide_eq_false k1
      go_quiet (fail)
      go_wp2
      go_meet
      exact ⟨⟨_, rfl⟩, HW.out.drewN _⟩
  case rest =>
    clear d0 d1 d2 hW0
    obtain ⟨⟨b36, rfl⟩, HW⟩ := hcut
    go_upto_if 36 with fail
    go_cut [7] (fun s7 wx => (∃ le, s7 = .string le ∧ IsLe le) ∧ InW w wx)
    case first =>
      cases b36
      · go_wp2
        go_meet
        exact ⟨⟨_, rfl, Or.inl rfl⟩, HW⟩
      · go_wp2
        go_meet
        exact ⟨⟨_, rfl, Or.inr rfl⟩, HW⟩
    case rest =>
      clear HW
      obtain ⟨⟨le, rfl, hle⟩, HW⟩ := hcut
      have e1 := (HW.1.cell (p := ⟨M, 1, none⟩) hM).trans HC.out.2.1
      have e2 := (HW.1.cell (p := ⟨M, 2, none⟩) hM).trans HC.out.2.2
      go_upto_region 4 with fail
      have hrl := HS.out.1
      have hnb : nb ≤ nr := by rw [← hrl]; exact HG.out.1
      have ew : IntKind.i64.wrap ((nr : Int) - (nb : Int)) = (nr : Int) - (nb : Int) := by rw [IntKind.wrap_i64]; omega
      go_cut [8] (fun s8 wx => s8 = .int .i64 ((nr : Int) - (nb : Int)) ∧ InW w wx)
      case first =>
        have HW' : Hid (InW w wc) := HW
        clear HW
        go_quiet (fail)
        go_wp2
        go_meet
        exact ⟨rfl, HW'.out.drewN _⟩
      case rest =>
        clear HW e1 e2 ew
        obtain ⟨rfl, HW⟩ := hcut
        have hAT : ∃ AT, atOf nb raw bs = AT := ⟨_, rfl⟩
        obtain ⟨AT, hAT⟩ := hAT
        have HAT : Hid (atOf nb raw bs = AT) := hAT
        have a1 : 1 ≤ AT := by rw [← hAT]; exact HG.out.2.2.2
        have a2 : AT ≤ (nr : Int) := by rw [← hAT, ← hrl]; exact atOf_le HG.out
        have hN : ∃ NI : Int, ((bs.length - 1 : Nat) : Int) = NI := ⟨_, rfl⟩
        obtain ⟨NI, hN⟩ := hN
        have hNum : ∀ W, Below w.heap.size w W → Calls Tryd.prog 31 #[.pointer (some ⟨M, 0, none⟩)] W fun e w' => e = .returned (.int .i64 NI) ∧ ∃ q, w' = W.drewN q := by
          intro W hW
          have := numFields_any w.heap.size M bs W (HO.out.world hW) h3
          rw [hN] at this
          exact this
        have HN : Hid (((bs.length - 1 : Nat) : Int) = NI) := hN
        have hN1 : 0 ≤ NI := by omega
        have hN2 : NI ≤ 1048576 := by omega
        clear hAT hN
        go_upto_if 50 with (go_at_call 31; refine (hNum _ HW.1).mono ?_; rintro e wy ⟨rfl, q, rfl⟩)
        have HW2 := HW.drewN q
        clear HW
        generalize wc.drewN q = wd at HW2
        go_cut [8] (fun s8 wx => s8 = .int .i64 AT ∧ InW w wx)
        case first =>
          rcases (by omega : NI = 0 ∨ 0 < NI) with h0 | hpos
          · subst h0
            have hlt : ¬ 2 ≤ bs.length := by have := HN.out; omega
            have hat := HAT.out
            unfold atOf at hat
            rw [if_neg hlt] at hat
            have hidx := indexNL_any w.heap.size pr nr cr raw wd (HS.out.world HW2.1) (by omega)
            have e2 := (HW2.1.cell (p := ⟨M, 2, none⟩) hM).trans HC.out.2.2
            cases hnl : Uf.hasNL raw with
            | true =>
              rw [hnl] at hidx hat
              simp only [if_true] at hidx hat
              obtain ⟨K, hK⟩ : ∃ K, (Uf.lineOf raw).length = K := ⟨_, rfl⟩
              rw [hK] at hidx hat
              have hKb : (K : Int) + 1 ≤ 1048576 := by omega
              have hKp : 0 ≤ (K : Int) := by omega
              subst hat
              clear HAT hK hlt HN
              generalize (K : Int) = KI at *
              clear K
              go_wp2_with (go_at_call 33; refine hidx.mono ?_; rintro e wy ⟨rfl, hw⟩; have hw := hw.symm; subst hw)
              go_meet
              exact ⟨rfl, HW2⟩
            | false =>
              rw [hnl] at hidx hat
              simp only [Bool.false_eq_true, if_false] at hidx hat
              rw [hrl] at hat
              subst hat
              go_wp2_with (go_at_call 33; refine hidx.mono ?_; rintro e wy ⟨rfl, hw⟩; have hw := hw.symm; subst hw)
              go_meet
              exact ⟨rfl, HW2⟩
          · obtain ⟨N', hNl⟩ : ∃ N', bs.length - 1 = N' + 1 := ⟨bs.length - 2, by have := HN.out; omega⟩
            have hNI : NI = ((N' + 1 : Nat) : Int) := by rw [← HN.out, hNl]
            have hi : N' + 1 < bs.length := by omega
            have hat := HAT.out
            unfold atOf at hat
            rw [if_pos (by omega), List.getD_eq_getElem?_getD, show bs.length - 1 = N' + 1 from hNl, List.getElem?_eq_getElem hi] at hat
            simp only [Option.getD_some] at hat
            obtain ⟨y, hy⟩ : ∃ y, bs[N'] = y := ⟨_, rfl⟩
            have hsp : ∀ W, InW w W → Calls Tryd.prog 32 #[.pointer (some ⟨M, 0, none⟩), .int .i64 (N' : Int)] W fun e w' => e = .returned (.agg #[.int .i64 y, .int .i64 AT]) ∧ Below W.heap.size W w' := by
              intro W hW
              have := span_any w.heap.size M N' bs W (HO.out.world hW.1) hW.1.size h3 hi (fun j hj => ⟨(HG.out.2.1 j hj).1, by have := (HG.out.2.1 j hj).2; omega⟩)
              rw [hat, hy] at this
              exact this
            have ew : IntKind.i64.wrap (NI - 1) = (N' : Int) := by rw [IntKind.wrap_i64]; omega
            have hfd : ∀ W : World, (Instr.field 38 (.agg #[.int .i64 y, .int .i64 AT]) 1).run Tryd.prog W = .ok (.int .i64 AT) W := fun _ => by kernel_rfl
            clear hat hy hi hNl HN HAT hNI
            generalize (N' : Int) = MI at *
            clear N'
            go_wp2_with (first | (go_at_call 31; refine (hNum _ HW2.1).mono ?_; rintro e wy ⟨rfl, q2, rfl⟩) | (go_at_call 32; refine (hsp _ (HW2.drewN _)).mono ?_; rintro e wy ⟨rfl, hb⟩))
            go_meet
            exact ⟨rfl, (HW2.drewN _).below hb⟩
        case rest =>
          clear HW2
          obtain ⟨rfl, HW⟩ := hcut
          obtain ⟨b, o, hp, hcell⟩ := HS.out.2.2.2.2.2 (by omega)
          subst hp
          have hbB : b < w.heap.size := HS.out.2.2.2.2.1 _ rfl
          obtain ⟨J, hJ⟩ : ∃ J : Nat, (J : Int) = AT - 1 := ⟨(AT - 1).toNat, by omega⟩
          have hJr : J < raw.length := by omega
          have hrd := (HW.1.cell (p := ⟨b, o + J, none⟩) hbB).trans (hcell J hJr)
          have e2 := (HW.1.cell (p := ⟨M, 2, none⟩) hM).trans HC.out.2.2
          obtain ⟨x, hx⟩ : ∃ x : Int, x = (raw[J].toNat : Int) := ⟨_, rfl⟩
          rw [← hx] at hrd
          rw [show J = AT.toNat - 1 from by omega] at hrd
          have HCell : Hid (∀ i (hi : i < raw.length), w.cell? ⟨b, o + i, none⟩ = some (.int .u8 (raw[i].toNat : Int))) := hcell
          clear hx hJr hcell hJ J
          go_upto_block 0 with fail
          go_cut [10] (fun s10 wx => (∃ ld, s10 = .string ld ∧ ld.size ≤ 2) ∧ InW w wx)
          case first =>
            have hls : le.size ≤ 2 := by rcases hle with h | h <;> rw [h] <;> decide
            cases h13 : (x == 13)
            · cases h10 : (x == 10)
              · go_wp2
                go_meet
                exact ⟨⟨_, rfl, hls⟩, HW⟩
              · go_wp2
                go_meet
                exact ⟨⟨_, rfl, by decide⟩, HW⟩
            · go_wp2
              go_meet
              exact ⟨⟨_, rfl, by decide⟩, HW⟩
          case rest =>
            clear HW hrd e2
            obtain ⟨⟨ld, rfl, hld⟩, HW⟩ := hcut
            go_upto_region 16 with fail
            have HSp := spStart AT HW.1 HW.2
            obtain ⟨W1, hW1⟩ : ∃ W1, W1 = wc.alloc (.cells #[.int .i64 AT, .int .i64 AT, .slice none 0 0, .slice none 0 0] 40) := ⟨_, rfl⟩
            rw [← hW1]
            rw [← hW1] at HSp
            clear hW1 HW
            generalize wc.heap.size = E at *
            go_cut [97] (fun s97 wx => (∃ b, s97 = .bool b ∧ (b = true → 0 < NI)) ∧ SpRel w E [] [] none 0 none 0 AT AT wx)
            case first =>
              cases hle0 : ld.toList.isEmpty
              · go_wp2_with (go_at_call 31; refine (hNum _ HSp.1).mono ?_; rintro e wy ⟨rfl, q2, rfl⟩)
                go_meet
                exact ⟨⟨_, rfl, fun h => of_decide_eq_true h⟩, HSp.drewN _⟩
              · go_wp2
                go_meet
                exact ⟨⟨_, rfl, fun h => by cases h⟩, HSp⟩
            case rest =>
              clear HSp
              obtain ⟨⟨b97, rfl, hb97⟩, HSp⟩ := hcut
              go_upto_if 97 with fail
              go_cut [8] (fun s8 wx => s8 = .int .i64 AT ∧ SpAny w E wx)
              case first =>
                cases b97
                · go_wp2
                  go_meet
                  exact ⟨rfl, [], [], none, 0, none, 0, AT, AT, by decide, by decide, HSp⟩
                · have hpos := hb97 rfl
                  obtain ⟨N', hNl⟩ : ∃ N', bs.length - 1 = N' + 1 := ⟨bs.length - 2, by have := HN.out; omega⟩
                  have hNI : NI = ((N' + 1 : Nat) : Int) := by rw [← HN.out, hNl]
                  have hi : N' + 1 < bs.length := by omega
                  have hat := HAT.out
                  unfold atOf at hat
                  rw [if_pos (by omega), List.getD_eq_getElem?_getD, show bs.length - 1 = N' + 1 from hNl, List.getElem?_eq_getElem hi] at hat
                  simp only [Option.getD_some] at hat
                  obtain ⟨y, hy⟩ : ∃ y, bs[N'] = y := ⟨_, rfl⟩
                  have hy0 : 0 ≤ y := by rw [← hy]; exact (HG.out.2.1 N' (by omega)).1
                  have hyA : y ≤ AT := by
                    have := HG.out.2.2.1 (N' + 1) hi (Nat.succ_pos _)
                    rw [hat, show N' + 1 - 1 = N' from rfl, List.getD_eq_getElem?_getD, List.getElem?_eq_getElem (show N' < bs.length by omega)] at this
                    simp only [Option.getD_some] at this
                    rw [← hy]; exact this
                  have hsp : ∀ W, Below w.heap.size w W → Calls Tryd.prog 32 #[.pointer (some ⟨M, 0, none⟩), .int .i64 (N' : Int)] W fun e w' => e = .returned (.agg #[.int .i64 y, .int .i64 AT]) ∧ Below W.heap.size W w' := by
                    intro W hW
                    have := span_any w.heap.size M N' bs W (HO.out.world hW) hW.size h3 hi (fun j hj => ⟨(HG.out.2.1 j hj).1, by have := (HG.out.2.1 j hj).2; omega⟩)
                    rw [hat, hy] at this
                    exact this
                  have ew : IntKind.i64.wrap (NI - 1) = (N' : Int) := by rw [IntKind.wrap_i64]; omega
                  have hfd : ∀ W : World, (Instr.field 38 (.agg #[.int .i64 y, .int .i64 AT]) 0).run Tryd.prog W = .ok (.int .i64 y) W := fun _ => by kernel_rfl
                  clear hat hy hi hNl HN HAT hNI
                  generalize (N' : Int) = MI at *
                  clear N'
                  go_upto_region 18 with (first | (go_at_call 31; refine (hNum _ HSp.1).mono ?_; rintro e wy ⟨rfl, q2, rfl⟩) | (go_at_call 32; refine (hsp _ (below_dN HSp.1 _)).mono ?_; rintro e wy ⟨rfl, hb⟩; have HSq := (HSp.drewN q2).below hb; have hk0 := HSq.cells.1; have hk1 := HSq.cells.2.2.2.2.1 0))
                  have HSr := HSq.setStart y
                  obtain ⟨W3, hW3⟩ : ∃ W3, W3 = wy.setCell ⟨E, 0, none⟩ (.int .i64 y) := ⟨_, rfl⟩
                  rw [← hW3]
                  rw [← hW3] at HSr
                  clear hW3 HSq HSp hb hk0 hk1
                  go_cut [8] (fun s8 wx => s8 = .int .i64 AT ∧ ∃ acc p2 c2, acc.length ≤ 1048576 ∧ SpRel w E acc [] p2 c2 none 0 y AT wx)
                  case first =>
                    have g0 := HSr.cells.1
                    have g2 : W3.cell? ⟨E, 2, none⟩ = some (.slice none 0 0) := HSr.cells.2.2.1
                    have gf := HSr.cells.2.2.2.2.1
                    have e2 := (HSr.1.cell (p := ⟨M, 2, none⟩) hM).trans HC.out.2.2
                    have hcr : (nr : Int) ≤ (cr : Int) := by have := HS.out.2.1; omega
                    have hcut22 := fun W => run_cut22 ⟨b, o, none⟩ nr cr y AT W hy0 hyA (by omega)
                    obtain ⟨i5, hi5, hz0, hz1, hz2⟩ := info_parts info5
                    have hnew : ∀ j u, (Lib.byteCells ((raw.take AT.toNat).drop y.toNat))[j]? = some u → W3.cell? ((cutA ⟨b, o, none⟩ cr y.toNat).add j) = some u := cut_cells (fun i hi => (HSr.1.cell (p := ⟨b, o + i, none⟩) hbB).trans (HCell.out i hi)) (by omega) (by omega) (by omega)
                    have hnl : ((raw.take AT.toNat).drop y.toNat).length = AT.toNat - y.toNat := by rw [List.length_drop, List.length_take]; omega
                    have hnl1 : (Lib.byteCells ((raw.take AT.toNat).drop y.toNat)).length = (AT.toNat - y.toNat) * 1 := by rw [Lib.byteCells_length, hnl, Nat.mul_one]
                    have hm1 : 0 + (AT.toNat - y.toNat) ≤ maxLen := by unfold maxLen; omega
                    have hm2 : (0 + (AT.toNat - y.toNat)) * 1 ≤ 140737488355328 := by omega
                    have hws := HSr.1.size
                    obtain ⟨news, hnews⟩ : ∃ news, news = (raw.take AT.toNat).drop y.toNat := ⟨_, rfl⟩
                    rw [← hnews] at hnew hnl hnl1
                    have hnb2 : news.length ≤ 1048576 := by omega
                    have HNl : Hid (news.length = AT.toNat - y.toNat) := hnl
                    have HSR : Hid (SpRel w E [] [] none 0 none 0 y AT W3) := HSr
                    clear hnews hnl HSr
                    go_region_law (refine step_append_own rfl (.tmp 107) (.tmp 116) 22 rfl w.heap.size 5 i5 (.int .u8 0) 1 1 Tryd.underlying22 hi5 hz0 hz1 hz2 rfl (by decide) (.slice none 0 0) 0 [] (by simp [Act.eval, Act.put]) (World.ownsRow_nil _ _ _ _) (cutA ⟨b, o, none⟩ cr y.toNat) (AT.toNat - y.toNat) (cr - y.toNat) (Lib.byteCells news) (by simp [Act.eval, Act.put]) hnl1 hnew (bytes_one news) hm1 hm2 hws ?_; intro v' w1 ho hg; obtain ⟨p', c', hv⟩ := own_slice ho; subst hv; have hgB := HSR.out.cellB (Below.refl _ _).drew hg; have gb1 : w1.cell? ⟨E, 2, none⟩ = some (.slice none 0 0) := hgB.1; have gb2 := hgB.2; have HF := spNews HSR.out HNl.out ho hg; clear ho hg hgB)
                    all_goals go_wp2_with fail
                    all_goals go_meet
                    all_goals exact ⟨rfl, news, _, _, hnb2, HF⟩
                  case rest =>
                    clear HSr
                    obtain ⟨rfl, acc, p2, c2, hac, HSr⟩ := hcut
                    have HSl := HSr.lit 0
                    have HSm := HSr.below (lit_below wc (.cells #[.int .i64 0] 3))
                    have g3 : (wc.alloc (.cells #[.int .i64 0] 3)).cell? ⟨E, 3, none⟩ = some (.slice none 0 0) := HSm.cells.2.2.2.1
                    have gf := HSm.cells.2.2.2.2.1
                    clear HSm HSr
                    go_wp2
                    go_meet
                    exact ⟨rfl, acc, [0], _, _, _, _, _, _, hac, by decide, HSl⟩
              case rest =>
                clear HSp hNum HG HO HS HC HAT HN HCell
                obtain ⟨rfl, acc, bd, p2, c2, p3, c3, a0, a9, hac, hbd, HSp⟩ := hcut
                obtain ⟨i5, hi5, hz0, hz1, hz2⟩ := info_parts info5
                have HI5 : Hid (Tryd.prog.info? 5 = some i5 ∧ i5.zero = some (.int .u8 0) ∧ i5.size = 1 ∧ i5.bytes = 1) := ⟨hi5, hz0, hz1, hz2⟩
                have g2 := HSp.cells.2.2.1
                have HS0 : Hid (SpRel w E acc bd p2 c2 p3 c3 a0 a9 wc) := HSp
                clear HSp hi5 hz0 hz1 hz2
                go_upto_region 21 with (at_builtin; refine Lib.wpList_append_own_string _ rfl _ _ 22 9 rfl w.heap.size 5 i5 Tryd.underlying22 Tryd.underlying9 HI5.out.1 HI5.out.2.1 HI5.out.2.2.1 HI5.out.2.2.2 _ _ _ rfl HS0.out.2.2.2.2.1 ld rfl (by unfold maxLen; omega) (by omega) HS0.out.1.size ?_; intro v' w1 ho hg _; obtain ⟨p', c', hv⟩ := own_slice ho; subst hv; have hgB := HS0.out.cellB (Below.refl _ _) hg; have gb1 := hgB.1; have gb2 := hgB.2; have HF := spStr HS0.out ho hg; clear ho hg hgB)
                obtain ⟨A, hA⟩ : ∃ A, A = acc ++ ld.data.toList := ⟨_, rfl⟩
                have hAl : A.length ≤ 1048578 := by rw [hA, List.length_append, show ld.data.toList.length = ld.size from rfl]; omega
                rw [← hA] at HF
                obtain ⟨Wa, hWa⟩ : ∃ Wa, Wa = w1.setCell ⟨E, 2, none⟩ (.slice p' (acc.length + ld.size) c') := ⟨_, rfl⟩
                rw [← hWa] at HF
                rw [← hWa]
                have HS1 : Hid (SpRel w E A bd p' c' p3 c3 a0 a9 Wa) := HF
                have k2 := HF.cells.2.2.1
                have k3 := HF.cells.2.2.2.1
                clear hWa hA HF HS0 g2 gb1 gb2 hld hac
                obtain ⟨i3, hi3, hy0, hy1, hy2⟩ := info_parts info3
                have HI3 : Hid (Tryd.prog.info? 3 = some i3 ∧ i3.zero = some (.int .i64 0) ∧ i3.size = 1 ∧ i3.bytes = 8) := ⟨hi3, hy0, hy1, hy2⟩
                clear hi3 hy0 hy1 hy2
                go_upto_region 22 with (at_builtin; refine wpList_append_own _ rfl _ _ 26 rfl w.heap.size 3 i3 (.int .i64 0) 1 8 Tryd.underlying26 HI3.out.1 HI3.out.2.1 HI3.out.2.2.1 HI3.out.2.2.2 rfl (by decide) _ _ _ rfl (HS1.out.2.2.2.2.2.alloc _) ⟨Wa.heap.size, 0, none⟩ 1 1 [.int .i64 (A.length : Int)] rfl rfl (one_new Wa _ 3 rfl) (one_one _) (by unfold maxLen; omega) (by omega) (Nat.le_trans HS1.out.1.size (lit_below Wa _).size) ?_; intro v' w1 ho hg _; obtain ⟨q', d', hv⟩ := own_slice ho; subst hv; have hgB := HS1.out.cellI (lit_below Wa _) hg; have gb1 := hgB.1; have gb2 := hgB.2; have HF := spInt HS1.out ho hg; clear ho hg hgB)
                obtain ⟨Bd, hBd⟩ : ∃ Bd, Bd = bd ++ [(A.length : Int)] := ⟨_, rfl⟩
                have hBl : Bd.length ≤ 2 := by rw [hBd, List.length_append]; show bd.length + 1 ≤ 2; omega
                have HBd : Hid (Bd = bd ++ [(A.length : Int)]) := hBd
                rw [← hBd] at HF
                obtain ⟨Wb, hWb⟩ : ∃ Wb, Wb = w1.setCell ⟨E, 3, none⟩ (.slice q' (bd.length + 1) d') := ⟨_, rfl⟩
                rw [← hWb] at HF
                rw [← hWb]
                have HS2 : Hid (SpRel w E A Bd p' c' q' d' a0 a9 Wb) := HF
                clear k2 k3 gb1 gb2
                have k2 := HF.cells.2.2.1
                have hls : le.size ≤ 2 := by rcases hle with h | h <;> rw [h] <;> decide
                obtain ⟨S, hS⟩ : ∃ S : ByteArray, S = ((nm ++ ⟨#[58, 32]⟩) ++ vl) ++ le := ⟨_, rfl⟩
                have hSz : S.size ≤ 3000000 := by
                  rw [hS, ByteArray.size_append, ByteArray.size_append, ByteArray.size_append, show (⟨#[58, 32]⟩ : ByteArray).size = 2 from rfl]
                  omega
                have HSd : Hid (S.data.toList = fieldOf nm.data.toList vl.data.toList le.data.toList) := by
                  show S.data.toList = _
                  rw [hS]
                  simp only [ByteArray.data_append, Array.toList_append]
                  rfl
                have HSe : Hid (S = ((nm ++ ⟨#[58, 32]⟩) ++ vl) ++ le) := hS
                clear hWb hBd HF HS1 hS
                go_upto_region 23 with (at_builtin; rw [← HSe.out]; refine Lib.wpList_append_own_string _ rfl _ _ 22 9 rfl w.heap.size 5 i5 Tryd.underlying22 Tryd.underlying9 HI5.out.1 HI5.out.2.1 HI5.out.2.2.1 HI5.out.2.2.2 _ _ _ rfl HS2.out.2.2.2.2.1 S rfl (by unfold maxLen; omega) (by omega) HS2.out.1.size ?_; intro v' w1 ho hg _; obtain ⟨p'', c'', hv⟩ := own_slice ho; subst hv; have hgB := HS2.out.cellB (Below.refl _ _) hg; have gb1 := hgB.1; have gb2 := hgB.2; have HF := spStr HS2.out ho hg; clear ho hg hgB)
                obtain ⟨F, hF⟩ : ∃ F, F = A ++ S.data.toList := ⟨_, rfl⟩
                have hFl : F.length ≤ 5000000 := by rw [hF, List.length_append, show S.data.toList.length = S.size from rfl]; omega
                have HFe : Hid (F = A ++ fieldOf nm.data.toList vl.data.toList le.data.toList) := by
                  show F = _
                  rw [hF, HSd.out]
                rw [← hF] at HF
                obtain ⟨Wc, hWc⟩ : ∃ Wc, Wc = w1.setCell ⟨E, 2, none⟩ (.slice p'' (A.length + S.size) c'') := ⟨_, rfl⟩
                rw [← hWc] at HF
                rw [← hWc]
                have HS3 : Hid (SpRel w E F Bd p'' c'' q' d' a0 a9 Wc) := HF
                clear k2 gb1 gb2
                have k2 := HF.cells.2.2.1
                have k3 := HF.cells.2.2.2.1
                clear hWc hF HF HS2 HSe HSd hSz
                go_upto_region 24 with (at_builtin; refine wpList_append_own _ rfl _ _ 26 rfl w.heap.size 3 i3 (.int .i64 0) 1 8 Tryd.underlying26 HI3.out.1 HI3.out.2.1 HI3.out.2.2.1 HI3.out.2.2.2 rfl (by decide) _ _ _ rfl (HS3.out.2.2.2.2.2.alloc _) ⟨Wc.heap.size, 0, none⟩ 1 1 [.int .i64 (F.length : Int)] rfl rfl (one_new Wc _ 3 rfl) (one_one _) (by unfold maxLen; omega) (by omega) (Nat.le_trans HS3.out.1.size (lit_below Wc _).size) ?_; intro v' w1 ho hg _; obtain ⟨q'', d'', hv⟩ := own_slice ho; subst hv; have hgB := HS3.out.cellI (lit_below Wc _) hg; have gb1 := hgB.1; have gb2 := hgB.2; have HF := spInt HS3.out ho hg; clear ho hg hgB)
                obtain ⟨Be, hBe⟩ : ∃ Be, Be = Bd ++ [(F.length : Int)] := ⟨_, rfl⟩
                have HBe : Hid (Be = bd ++ [(A.length : Int)] ++ [(F.length : Int)]) := by
                  show Be = _
                  rw [hBe, HBd.out]
                have hBn : Be.length = Bd.length + 1 := by rw [hBe, List.length_append]; rfl
                rw [← hBe, ← hBn] at HF
                rw [← hBn]
                obtain ⟨Wd, hWd⟩ : ∃ Wd, Wd = w1.setCell ⟨E, 3, none⟩ (.slice q'' Be.length d'') := ⟨_, rfl⟩
                rw [← hWd] at HF
                rw [← hWd]
                have HS4 : Hid (SpRel w E F Be p'' c'' q'' d'' a0 a9 Wd) := HF
                clear k2 k3 gb1 gb2 hWd hBe hBn HS3 HBd hBl hFl
                obtain ⟨m0, m1, m2, m3, mf, n0, n1, n2, n3, nf⟩ := HF.cells
                clear HF
                go_wp2
                obtain ⟨wf, hwf⟩ : ∃ wf, wf = (((Wd.setCell ⟨w.heap.size, 0, none⟩ (.int .i64 a0)).setCell ⟨w.heap.size, 1, none⟩ (.int .i64 a9)).setCell ⟨w.heap.size, 2, none⟩ (.slice p'' F.length c'')).setCell ⟨w.heap.size, 3, none⟩ (.slice q'' Be.length d'') := ⟨_, rfl⟩
                obtain ⟨⟨f0, f1, f2, f3⟩, hbel, hsl, hsi⟩ := spEnd HS4.out hwf
                rw [← hwf]
                clear hwf
                have hpost : InfPost nm.data.toList vl.data.toList (.returned (.agg #[.int .i64 a0, .int .i64 a9, .slice p'' F.length c'', .slice q'' Be.length d''])) wf := by
                  rw [HFe.out] at hsl ⊢
                  have hb2 := HBe.out
                  rw [HFe.out] at hb2
                  rw [hb2] at hsi ⊢
                  exact ⟨a0, a9, p'', c'', q'', d'', A, bd, le.data.toList, by rcases hle with h | h <;> rw [h] <;> simp, by omega, hbd, rfl, hsl, hsi⟩
                refine bodyPost_ret (v := .agg #[.int .i64 a0, .int .i64 a9, .slice p'' F.length c'', .slice q'' Be.length d'']) (by simp [results, Tryd.results20, go_sem, f0, f1, f2, f3]) rfl ⟨hpost, hbel⟩
end Go.Proofs.Qxb6602839aDoor
