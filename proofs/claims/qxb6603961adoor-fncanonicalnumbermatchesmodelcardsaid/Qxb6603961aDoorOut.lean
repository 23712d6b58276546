/-
  Seat b6603961aD: bytes appended to a row of the call's own; the walk of zzDecimal.
-/
import Derived.Test.Qxb6603961aDoorW5
import Derived.Lib.AppendStr
import Derived.Lib.AppendIntMem
namespace Go.Proofs.Qxb6603961aDoor
open Go.RowKit Nb

/-- The slice p, n, c of the call's own holds the bytes L. -/
def OutB (w : World) (p : Option Addr) (n c : Nat) (L : List UInt8) (wr : World) : Prop := n = L.length ∧ wr.ownsRow w.heap.size 5 1 (.slice p n c) n (Lib.byteCells L) ∧ Below w.heap.size w wr
theorem OutB.start (w : World) : OutB w none 0 0 [] w := ⟨rfl, World.ownsRow_nil _ _ _ _, Below.refl _ _⟩
theorem OutB.start_at {w wr : World} (h : Below w.heap.size w wr) : OutB w none 0 0 [] wr := ⟨rfl, World.ownsRow_nil _ _ _ _, h⟩
theorem own_slice {B T n : Nat} {v : Value} {xs : List Value} {w : World} (h : w.ownsRow B T 1 v n xs) : ∃ p c, v = .slice p n c := by
  rcases h.2 with ⟨rfl, h0⟩ | ⟨g, cap, cur, hv, _⟩
  · subst h0; exact ⟨_, _, rfl⟩
  · exact ⟨_, _, hv⟩
theorem OutB.row {w : World} {p : Option Addr} {n c : Nat} {L : List UInt8} {wr : World} (h : OutB w p n c L wr) (hn : 0 < n) : ∃ g, p = some ⟨g, 0, none⟩ ∧ w.heap.size ≤ g ∧ g < wr.heap.size ∧ ∀ j (hj : j < L.length), wr.cell? ⟨g, j, none⟩ = some (.int .u8 (L[j].toNat : Int)) := by
  obtain ⟨h1, h2, h3⟩ := h
  rcases h2.2 with ⟨hv, h0⟩ | ⟨g, cap, cur, hv, hg, _⟩
  · omega
  · have e : p = some ⟨g, 0, none⟩ := by
      have := congrArg (fun v => match v with | .slice a _ _ => a | _ => none) hv
      exact this
    subst e
    have hlt := h2.lt g rfl
    refine ⟨g, rfl, hlt.1, hlt.2, fun j hj => ?_⟩
    rw [h2.cellAt j (by omega)]
    unfold Lib.byteCells
    rw [List.getElem?_map, List.getElem?_eq_getElem hj]
    rfl
theorem OutB.conv {w : World} {p : Option Addr} {n c : Nat} {L : List UInt8} {wr : World} (h : OutB w p n c L wr) (hn : 0 < n) : (convert 42 9 (.slice p n c)).run Tryd.prog wr = .ok (.string (ofl L)) wr := by
  obtain ⟨g, hp, -, -, hc⟩ := h.row hn
  have hl := h.1
  subst hp
  subst hl
  exact run_convert_bytes_back wr 42 9 5 ⟨g, 0, none⟩ c L Tryd.underlying42 Tryd.underlying5 Tryd.underlying9 (fun j hj => by rw [addr_add]; exact hc j hj)
theorem new_block (w : World) (o : Obj) : (w.alloc o).heap[w.heap.size]? = some o := by
  show (w.heap.push o)[w.heap.size]? = _
  simp
theorem lit_below (w : World) (o : Obj) : Below w.heap.size w (w.alloc o) := (Below.refl _ _).alloc (Nat.le_refl _) _

theorem app_byte {ops : Array Oper} {rest : List Oper} {o : Oper} {a : Act} {Q : Exit → Act → World → Prop} (hgd : o.guard = none) (s x : Operand)
    (ho : o.op = .call { callee := .builtin .append, args := #[s, x], argTypes := #[42, 42] })
    (w wr : World) (p : Option Addr) (n c : Nat) (L : List UInt8) (hs : a.eval s = .slice p n c) (hO : OutB w p n c L wr) (v : Int) (b : UInt8) (hb : v = (b.toNat : Int))
    (hx : a.eval x = .slice (some ⟨wr.heap.size, 0, none⟩) 1 1) (hlen : (n : Int) ≤ 1000000000)
    (h : ∀ p' (n' c' : Nat) w', (n' : Int) = (n : Int) + 1 → OutB w p' n' c' (L ++ [b]) w' → wpList Tryd.prog ops Q rest (a.put o.dst (.slice p' n' c')) w') : wpList Tryd.prog ops Q (o :: rest) a (wr.alloc (.cells #[.int .u8 v] 5)) := by
  obtain ⟨i0, hi, hz0, hz1, hz2⟩ := info_parts info5
  obtain ⟨h1, h2, h3⟩ := hO
  refine wpList_append_own _ hgd s x 42 ho w.heap.size 5 i0 (.int .u8 0) 1 1 Tryd.underlying42 hi hz0 hz1 hz2 rfl (by decide) _ _ _ hs (h2.alloc _) ⟨wr.heap.size, 0, none⟩ 1 1 [.int .u8 v] hx rfl ?_ ?_ (by unfold maxLen; omega) (by omega) (Nat.le_trans h3.size (lit_below wr _).size) ?_
  · intro j u hu
    rw [addr_add]
    have hn := new_block wr (.cells #[.int .u8 v] 5)
    rw [World.cell?_alloc_mark, ← Array.getElem?_toList]
    exact hu
  · intro u hu
    simp only [List.mem_cons, List.mem_nil_iff, or_false] at hu
    subst hu
    rfl
  · intro v' w' ho' hg _
    obtain ⟨p', c', hv⟩ := own_slice ho'
    subst hv
    refine h p' (n + 1) c' w' (by omega) ⟨by rw [List.length_append, h1]; rfl, ?_, ?_⟩
    · rw [Lib.byteCells_append]
      have e : Lib.byteCells [b] = [.int .u8 v] := by rw [hb]; rfl
      rw [e]
      exact ho'
    · refine (h3.trans ((lit_below wr _).mono h3.size)).grown hg (Nat.le_trans h3.size (lit_below wr _).size) (fun k hk => ?_)
      exact (h2.lt k hk).1
theorem app_str {ops : Array Oper} {rest : List Oper} {o : Oper} {a : Act} {Q : Exit → Act → World → Prop} (hgd : o.guard = none) (s x : Operand)
    (ho : o.op = .call { callee := .builtin .append, args := #[s, x], argTypes := #[42, 9] })
    (w wr : World) (p : Option Addr) (n c : Nat) (L : List UInt8) (hs : a.eval s = .slice p n c) (hO : OutB w p n c L wr) (t : ByteArray)
    (hx : a.eval x = .string t) (hlen : (n : Int) ≤ 1000000000) (hlt : (t.size : Int) ≤ 1000000000)
    (h : ∀ p' (n' c' : Nat) w', (n' : Int) = (n : Int) + (t.size : Int) → OutB w p' n' c' (L ++ bl t) w' → wpList Tryd.prog ops Q rest (a.put o.dst (.slice p' n' c')) w') : wpList Tryd.prog ops Q (o :: rest) a wr := by
  obtain ⟨i0, hi, hz0, hz1, hz2⟩ := info_parts info5
  obtain ⟨h1, h2, h3⟩ := hO
  refine Lib.wpList_append_own_string _ hgd s x 42 9 ho w.heap.size 5 i0 Tryd.underlying42 Tryd.underlying9 hi hz0 hz1 hz2 _ _ _ hs h2 t hx (by unfold maxLen; omega) (by omega) h3.size ?_
  intro v' w' ho' hg _
  obtain ⟨p', c', hv⟩ := own_slice ho'
  subst hv
  refine h p' (n + t.size) c' w' (by omega) ⟨by rw [List.length_append, h1]; rfl, ?_, ?_⟩
  · rw [Lib.byteCells_append]
    exact ho'
  · exact h3.grown hg h3.size (fun k hk => (h2.lt k hk).1)

/-! ### zzDecimal -/
def decM (m : Nat) : List UInt8 := if m = 0 then [] else Lib.decDigits m
theorem decM_pos {m : Nat} (h : 0 < m) : decM m = Lib.decDigits m := by unfold decM; rw [if_neg (by omega)]
theorem decM_step {m : Nat} (h : 0 < m) : decM m = decM (m / 10) ++ [UInt8.ofNat (48 + m % 10)] := by
  rw [decM_pos h]
  by_cases h10 : m < 10
  · rw [show m / 10 = 0 from by omega, show m % 10 = m from by omega, dec_small m h10]
    rfl
  · rw [decM_pos (by omega), Lib.decDigits, dif_neg h10]
theorem decM_next {N m : Nat} {L : List UInt8} (h : decM N = decM m ++ L.reverse) (hm : 0 < m) : decM N = decM (m / 10) ++ (L ++ [UInt8.ofNat (48 + m % 10)]).reverse := by
  rw [h, decM_step hm, List.reverse_append, List.append_assoc]
  rfl
def RevR (W1 : World) (L : List UInt8) (g k : Nat) (wr : World) : Prop := ∃ M, Row W1 g M wr ∧ M.length = L.length ∧ M.take k = L.reverse.take k
theorem RevR.start (W1 : World) (L : List UInt8) (m : Nat) (hm : m = L.length) : RevR W1 L W1.heap.size 0 (W1.alloc (.cells (farB m) 5)) := by
  subst hm
  exact ⟨_, Row.make W1 L.length, List.length_replicate, rfl⟩
theorem RevR.cell {W1 : World} {L : List UInt8} {g k : Nat} {wr : World} (h : RevR W1 L g k wr) (hk : k < L.length) : (∃ v, wr.cell? ⟨g, k, none⟩ = some (.int .u8 v)) ∧ wr.frozen? ⟨g, k, none⟩ = false := by
  obtain ⟨M, h1, h2, h3⟩ := h
  exact ⟨⟨_, h1.2.2.1 k (by omega)⟩, h1.2.2.2 k (by omega)⟩
theorem RevR.step {W1 : World} {L : List UInt8} {g k q : Nat} {wr : World} (h : RevR W1 L g k wr) (hq : q + k + 1 = L.length) (hql : q < L.length) : RevR W1 L g (k + 1) (wr.setCell ⟨g, k, none⟩ (.int .u8 (L[q].toNat : Int))) := by
  obtain ⟨M, h1, h2, h3⟩ := h
  refine ⟨M.set k L[q], h1.set k _ _ rfl, by rw [List.length_set, h2], ?_⟩
  rw [List.take_add_one, List.take_add_one, set_take, h3, List.getElem?_set_self (by omega), List.getElem?_reverse (by omega), show L.length - 1 - k = q from by omega, List.getElem?_eq_getElem hql]
theorem RevR.done {W1 : World} {L : List UInt8} {g : Nat} {wr : World} (h : RevR W1 L g L.length wr) : Row W1 g L.reverse wr := by
  obtain ⟨M, h1, h2, h3⟩ := h
  rw [List.take_of_length_le (by omega), List.take_of_length_le (by rw [List.length_reverse]; exact Nat.le_refl _)] at h3
  rw [← h3]
  exact h1

set_option maxHeartbeats 2000000 in
theorem decimal_any (x : Int) (w : World) (h1 : -1000000000 ≤ x) (h2 : x ≤ 1000000000) :
    Calls Tryd.prog 16 #[.int .i64 x] w fun e w' => e = .returned (.tuple #[.bool (decide (x < 0)), .string (numS x)]) ∧ Below w.heap.size w w' := by
  by_cases h0 : x = 0
  · subst h0
    have e : numS 0 = ⟨#[48]⟩ := by
      unfold numS
      rw [show (0 : Int).natAbs = 0 from rfl, dec_zero]
    rw [e, show decide ((0 : Int) < 0) = false from rfl]
    go_enter Tryd.func16, Tryd.ntmps16
    go_wp2
    go_ret2
    exact ⟨rfl, Below.refl _ _⟩
  · obtain ⟨N, hN, hN0, hN2⟩ : ∃ N : Nat, N = x.natAbs ∧ 0 < N ∧ (N : Int) ≤ 1000000000 := ⟨_, rfl, by omega, by omega⟩
    have hnum : numS x = ofl (decM N) := by unfold numS; rw [← hN, decM_pos hN0]
    have HN : Hid (N = x.natAbs) := hN
    rw [hnum]
    clear hnum hN
    generalize hR : ofl (decM N) = R
    have HR : Hid (ofl (decM N) = R) := hR
    clear hR
    go_enter Tryd.func16, Tryd.ntmps16
    go_upto_if 10 with fail
    go_cut [0] (fun s0 wx => s0 = .int .i64 (N : Int) ∧ wx = w)
    case first =>
      by_cases hn : x < 0
      · have e : (N : Int) = -x := by have := HN.out; omega
        have e' : -x = (N : Int) := e.symm
        clear e
        go_wp2
        go_meet
        exact ⟨rfl, rfl⟩
      · have e : x = (N : Int) := by have := HN.out; omega
        subst e
        go_wp2
        go_meet
        exact ⟨rfl, rfl⟩
    case rest =>
      obtain ⟨rfl, hw⟩ := hcut
      have hw := hw.symm
      subst hw
      clear h0 h1 h2 HN
      have hz : ((N : Int) == 0) = false := beq_eq_false_iff_ne.2 (by omega)
      go_wp2
      go_loopw [0, 5] (fun v0 v5 wr => ∃ (m n c : Nat) (p : Option Addr) (L : List UInt8), v0 = .int .i64 (m : Int) ∧ v5 = .slice p n c ∧ (m : Int) ≤ 1000000000 ∧ (n : Int) + (m : Int) ≤ 1000000000 ∧ Hid (decM N = decM m ++ L.reverse) ∧ Hid (OutB w p n c L wr)) (fun v0 _ _ => (intOf v0).toNat)
      case atStart => exact ⟨N, 0, 0, none, [], rfl, rfl, hN2, by omega, (by show decM N = decM N ++ []; rw [List.append_nil]), OutB.start w⟩
      case round =>
        obtain ⟨m, n, c, p, L, rfl, rfl, hm, hnm, HD, HO⟩ := hrel
        by_cases hm0 : 0 < m
        · have HD' : Hid (decM N = decM (m / 10) ++ (L ++ [UInt8.ofNat (48 + m % 10)]).reverse) := decM_next HD.out hm0
          clear HD
          go_wp2_with (at_builtin; refine app_byte rfl _ _ rfl w wr p n c L rfl HO.out _ (UInt8.ofNat (48 + m % 10)) (by rw [toNat_dig _ (Nat.mod_lt _ (by decide))]; go_num) rfl (by omega) ?_; intro p' n' c' w1 hn1 HO1)
          go_roundw
          case rel => exact ⟨m / 10, n', c', p', _, by go_num, rfl, by omega, by omega, HD', HO1⟩
          case measure => simp [intOf]; omega
        · have hm00 : m = 0 := by omega
          subst hm00
          have HL : Hid (decM N = L.reverse) := HD.out
          have hn0 : 0 < n := by
            rcases Nat.eq_zero_or_pos n with h | h
            · exfalso
              have hl : L = [] := List.eq_nil_of_length_eq_zero (by have := HO.out.1; omega)
              have := HL.out
              rw [hl, decM_pos hN0] at this
              exact dec_ne N this
            · exact h
          obtain ⟨g, hp, hg1, hg2, hcell⟩ := HO.out.row hn0
          subst hp
          have hnl : n = L.length := HO.out.1
          have HB : Hid (Below w.heap.size w wr) := HO.out.2.2
          have HC : Hid (∀ j (hj : j < L.length), wr.cell? ⟨g, j, none⟩ = some (.int .u8 (L[j].toNat : Int))) := hcell
          have Hnl : Hid (n = L.length) := hnl
          have hmk := fun W => run_make42 W n (by omega)
          have HS : Hid (RevR wr L wr.heap.size 0 (wr.alloc (.cells (farB n) 5))) := RevR.start wr L n hnl
          clear HD HO hcell hnl
          generalize hWW : wr = W1 at *
          clear hWW
          go_wp2
          go_loopw [7] (fun v7 wr => ∃ k : Nat, k ≤ n ∧ v7 = .int .i64 (k : Int) ∧ Hid (RevR W1 L W1.heap.size k wr)) (fun v7 _ => n - (intOf v7).toNat)
          case atStart => exact ⟨0, Nat.zero_le _, rfl, HS.out⟩
          case round =>
            clear hmk HS
            obtain ⟨k, hk, rfl, HV⟩ := hrel
            by_cases hlt : k < n
            · obtain ⟨q, hq⟩ : ∃ q : Nat, q + k + 1 = n := ⟨n - k - 1, by omega⟩
              have hqi : (n : Int) - 1 - (k : Int) = (q : Int) := by omega
              have hql : q < L.length := by have := Hnl.out; omega
              have hrd : wr.cell? ⟨g, q, none⟩ = some (.int .u8 (L[q].toNat : Int)) := by
                obtain ⟨M, hM, -⟩ := HV.out
                exact (hM.1.cell (p := ⟨g, q, none⟩) hg2).trans (HC.out q hql)
              obtain ⟨⟨v, hwv⟩, hfr⟩ := HV.out.cell (k := k) (by have := Hnl.out; omega)
              have HN1 : Hid (RevR W1 L W1.heap.size (k + 1) (wr.setCell ⟨W1.heap.size, k, none⟩ (.int .u8 (L[q].toNat : Int)))) := HV.out.step (by have := Hnl.out; omega) hql
              clear HV
              go_wp2
              go_roundw
              case rel => exact ⟨k + 1, by omega, by go_num, HN1⟩
              case measure => simp [intOf]; omega
            · have hkn : k = n := by omega
              subst hkn
              have hRow : Row W1 W1.heap.size L.reverse wr := by
                have h := HV.out
                rw [Hnl.out] at h
                exact h.done
              have HRB : Hid (Below W1.heap.size W1 wr) := hRow.1
              have hcv : ∀ q, (convert 42 9 (.slice (some ⟨W1.heap.size, 0, none⟩) k k)).run Tryd.prog (wr.drewN q) = .ok (.string R) (wr.drewN q) := fun q => by
                have := (hRow.drewN q).conv k k (by rw [List.length_reverse]; exact Hnl.out.symm)
                rw [this, ← HR.out, HL.out]
              clear HV hRow HC Hnl HL
              go_wp2_with fail
              go_quiet (fail)
              go_wp2
              go_ret2
              exact ⟨rfl, below_dN (below_up HB.out HRB.out) _⟩
end Go.Proofs.Qxb6603961aDoor
