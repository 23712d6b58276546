/-
  Seat b6602839aD: the law FnInsertedFieldUnfoldsToItsValue: cloneInts, fieldCount, insertPoint.
-/
import Derived.Test.Qxb6602839aDoorIns1
namespace Go.Proofs.Qxb6602839aDoor
open Go.Shelf Go.RowKit

theorem info3 : (Tryd.prog.info? 3).map (fun i => (i.zero, i.size, i.bytes)) = some (some (.int .i64 0), 1, 8) := by kernel_rfl

/-- A slice of ints as an argument lies. -/
def ArgI (w : World) (p : Option Addr) (n : Nat) (l : List Int) : Prop :=
  l.length = n ∧ (p = none → n = 0) ∧ (0 < n → ∃ b o, p = some ⟨b, o, none⟩ ∧ ∀ i (hi : i < l.length), w.cell? ⟨b, o + i, none⟩ = some (.int .i64 l[i]))
/-- .. and below block B. -/
def SlI (w : World) (B : Nat) (p : Option Addr) (n : Nat) (l : List Int) : Prop :=
  ArgI w p n l ∧ ∀ a, p = some a → a.block < B
theorem SlI.world {w w' : World} {B : Nat} {p : Option Addr} {n : Nat} {l : List Int} (h : SlI w B p n l) (hb : Below B w w') : SlI w' B p n l := by
  obtain ⟨⟨h1, h4, h6⟩, h5⟩ := h
  refine ⟨⟨h1, h4, fun hn => ?_⟩, h5⟩
  obtain ⟨b, o, hp, hc⟩ := h6 hn
  exact ⟨b, o, hp, fun i hi => (hb.cell (p := ⟨b, o + i, none⟩) (show b < B from h5 ⟨b, o, none⟩ hp)).trans (hc i hi)⟩

def CiRel (w : World) (l : List Int) (g n k : Nat) (wr : World) : Prop :=
  ∃ xs, wr.ownsRow w.heap.size 3 1 (.slice (some ⟨g, 0, none⟩) n n) n xs ∧ Below w.heap.size w wr ∧ ∀ j (hj : j < l.length), j < k → xs[j]? = some (.int .i64 l[j])
theorem CiRel.cell {w : World} {l : List Int} {g n k : Nat} {wr : World} (h : CiRel w l g n k wr) (j : Nat) (hj : j < n) : ∃ v, wr.cell? ⟨g, j, none⟩ = some v := by
  obtain ⟨xs, hown, -, -⟩ := h
  have hl : xs.length = n := by have := hown.1; omega
  exact ⟨xs[j]'(by omega), by rw [hown.cellAt j (by omega)]; exact List.getElem?_eq_getElem _⟩
theorem CiRel.frozen {w : World} {l : List Int} {g n k : Nat} {wr : World} (h : CiRel w l g n k wr) (j : Nat) : wr.frozen? ⟨g, j, none⟩ = false := by
  obtain ⟨xs, hown, -, -⟩ := h
  exact hown.frozenAt j
theorem CiRel.step {w : World} {l : List Int} {g n k : Nat} {wr : World} (h : CiRel w l g n k wr) (hk : k < n) (hl : l.length = n) (hg : w.heap.size ≤ g) :
    CiRel w l g n (k + 1) (wr.setCell ⟨g, k, none⟩ (.int .i64 (l[k]'(by omega)))) := by
  obtain ⟨xs, hown, hb, hx⟩ := h
  have hlx : xs.length = n := by have := hown.1; omega
  refine ⟨_, (hown.stored k _).1, hb.setCell hg _, fun j hj hjk => ?_⟩
  by_cases e : j = k
  · subst e; rw [List.getElem?_set_self (by omega)]
  · rw [List.getElem?_set_ne (fun e' => e e'.symm)]
    exact hx j hj (by omega)
theorem CiRel.done {w : World} {l : List Int} {g n : Nat} {wr : World} (h : CiRel w l g n n wr) (hl : l.length = n) : SlI wr wr.heap.size (some ⟨g, 0, none⟩) n l := by
  obtain ⟨xs, hown, hb, hx⟩ := h
  refine ⟨⟨hl, (fun e => by cases e), fun hp => ⟨g, 0, rfl, fun i hi => ?_⟩⟩, fun a ha => ?_⟩
  · rw [Nat.zero_add, hown.cellAt i (by omega)]
    exact hx i hi (by omega)
  · obtain rfl := Option.some.inj ha
    exact (hown.lt g rfl).2

set_option maxHeartbeats 1000000 in
theorem cloneInts_any (p : Option Addr) (n c : Nat) (l : List Int) (w : World) (h : ArgI w p n l) (hn : n ≤ 1048576) :
    Calls Tryd.prog 14 #[.slice p n c] w fun e w' => (∃ p' c', e = .returned (.slice p' n c') ∧ SlI w' w'.heap.size p' n l) ∧ Below w.heap.size w w' := by
  have q26 : ∀ (w : World) (a : Option Addr) (n c n' c' : Nat), (binOp .eql 26 (.slice a n c) (.slice none n' c')).run Tryd.prog w = .ok (.bool a.isNone) w := fun w a n c n' c' => Lib.run_eql_slice_nil w _ _ a n c n' c' Tryd.underlying26
  cases p with
  | none =>
    have hn0 : n = 0 := h.2.1 rfl
    subst hn0
    have hl : l = [] := List.eq_nil_of_length_eq_zero h.1
    subst hl
    clear h
    have HS : ∀ W : World, SlI W W.heap.size none 0 [] := fun W => ⟨⟨rfl, fun _ => rfl, fun h => absurd h (Nat.lt_irrefl 0)⟩, (fun a ha => by cases ha)⟩
    go_enter Tryd.func14, Tryd.ntmps14
    go_wp2
    go_ret
    exact ⟨⟨none, 0, rfl, HS _⟩, Below.refl _ _⟩
  | some ad =>
    obtain ⟨i0, hi, hz0, hz1, hz2⟩ := info_parts info3
    have HS : Hid (ArgI w (some ad) n l) := h
    clear h
    go_enter Tryd.func14, Tryd.ntmps14
    go_wp2_with (at_make; refine wpList_make_full _ rfl _ _ 26 rfl w.heap.size 3 i0 (.int .i64 0) 1 Tryd.underlying26 hi hz0 hz1 .i64 .i64 _ _ n rfl rfl rfl rfl ?b2 ?b3 ?b4 ?_)
    case b2 => rw [hz2]; omega
    case b3 => unfold maxLen; omega
    case b4 => exact Nat.le_refl _
    intro w1 hown hgrow
    have HC : Hid (CiRel w l w.heap.size n 0 w1) := ⟨_, hown, (Below.refl _ _).grown hgrow (Nat.le_refl _) (fun k hk => by cases hk), fun j _ hj => absurd hj (Nat.not_lt_zero _)⟩
    clear hown hgrow
    go_wp2
    go_loopw [4] (fun i wr => ∃ k : Nat, k ≤ n ∧ i = .int .i64 k ∧ CiRel w l w.heap.size n k wr) (fun i _ => n - (intOf i).toNat)
    case atStart => exact ⟨0, Nat.zero_le _, rfl, HC.out⟩
    case round =>
      obtain ⟨k, hk, rfl, HR⟩ := hrel
      by_cases hlt : k < n
      · have hs := HS.out
        have hlen := hs.1
        obtain ⟨b, o, hp, hcell⟩ := hs.2.2 (by omega)
        obtain rfl : ad = ⟨b, o, none⟩ := Option.some.inj hp
        have hck : k < l.length := by omega
        have hbB : b < w.heap.size := World.block_lt_of_cell? w ⟨b, o + k, none⟩ (hcell k hck)
        have hrd : wr.cell? ⟨b, o + k, none⟩ = some (.int .i64 l[k]) := by
          obtain ⟨xs, -, hb, -⟩ := HR
          exact (hb.cell (p := ⟨b, o + k, none⟩) hbB).trans (hcell k hck)
        obtain ⟨v, hwv⟩ := HR.cell k hlt
        have hfr := HR.frozen k
        have HN : Hid (CiRel w l w.heap.size n (k + 1) (wr.setCell ⟨w.heap.size, k, none⟩ (.int .i64 l[k]))) := HR.step hlt hlen (Nat.le_refl _)
        clear hs hlen hcell hp HR HC
        go_wp2
        go_roundw
        case rel => exact ⟨k + 1, by omega, by go_num, HN.out⟩
        case measure => simp [intOf]; omega
      · have hkn : k = n := by omega
        subst hkn
        have hlen := HS.out.1
        have HD : Hid (SlI wr wr.heap.size (some ⟨w.heap.size, 0, none⟩) k l) := HR.done hlen
        have HB : Hid (Below w.heap.size w wr) := by obtain ⟨xs, -, hb, -⟩ := HR; exact hb
        clear HR hlen HC
        go_wp2
        go_ret
        exact ⟨⟨_, k, rfl, HD.out⟩, HB.out⟩

set_option maxHeartbeats 400000 in
theorem fieldCount_any (p : Option Addr) (n c : Nat) (w : World) (hn : n ≤ 1048576) : Calls Tryd.prog 19 #[.slice p n c] w fun e w' => e = .returned (.int .i64 ((n - 1 : Nat) : Int)) ∧ w' = w := by
  by_cases h : n < 2
  · have e : n - 1 = 0 := by omega
    rw [e]
    clear e
    go_enter Tryd.func19, Tryd.ntmps19
    go_wp2
    go_ret
    exact ⟨rfl, rfl⟩
  · obtain ⟨m, rfl⟩ : ∃ m, n = m + 1 := ⟨n - 1, by omega⟩
    have e : m + 1 - 1 = m := by omega
    rw [e]
    clear e
    go_enter Tryd.func19, Tryd.ntmps19
    go_wp2
    go_ret
    exact ⟨rfl, rfl⟩

theorem noNL_list : ∀ l : List UInt8, (∀ t, t < l.length → l[t]? ≠ some 10) → Uf.hasNL l = false
  | [], _ => rfl
  | c :: r, h => by
    have h0 : c ≠ 10 := by
      have := h 0 (by simp)
      intro e; apply this; simp [e]
    simp only [Uf.hasNL, if_neg h0]
    exact noNL_list r fun t ht => by have := h (t + 1) (by simpa using ht); simpa using this

/-- The insertion point. -/
def atOf (nb : Nat) (raw : List UInt8) (bs : List Int) : Int :=
  if 2 ≤ bs.length then bs.getD (bs.length - 1) 0 else if Uf.hasNL raw then ((Uf.lineOf raw).length : Int) + 1 else (raw.length : Int) - nb
/-- A message as the package documents one. -/
def Good (nb : Nat) (raw : List UInt8) (bs : List Int) : Prop :=
  nb ≤ raw.length ∧ (∀ i (hi : i < bs.length), 0 ≤ bs[i] ∧ bs[i] ≤ raw.length) ∧ (∀ i (hi : i < bs.length), 0 < i → bs.getD (i - 1) 0 ≤ bs[i]) ∧ 1 ≤ atOf nb raw bs
def InsPost (nb : Nat) (raw : List UInt8) (bs : List Int) (e : Ending) : Prop := ∃ P ok, e = .returned (.tuple #[.int .i64 P, .bool ok]) ∧ (ok = true → Good nb raw bs)
theorem insPost_no (nb : Nat) (raw : List UInt8) (bs : List Int) (P : Int) : InsPost nb raw bs (.returned (.tuple #[.int .i64 P, .bool false])) := ⟨P, false, rfl, (fun h => by cases h)⟩

set_option maxHeartbeats 2000000 in
theorem insertPoint_any (pb pr pi : Option Addr) (nb cb nr cr ni ci : Nat) (raw : List UInt8) (bs : List Int) (w : World) (hr : Arg w pr nr raw) (hi : ArgI w pi ni bs) (h1 : nb ≤ 1048576) (h2 : nr ≤ 1048576) (h3 : ni ≤ 1048576) :
    Calls Tryd.prog 12 #[.slice pb nb cb, .slice pr nr cr, .slice pi ni ci] w fun e w' => InsPost nb raw bs e ∧ ∃ q, w' = w.drewN q := by
  by_cases hbr : nr < nb
  · go_enter Tryd.func12, Tryd.ntmps12
    go_wp2
    go_ret2
    exact ⟨insPost_no _ _ _ _, 0, rfl⟩
  · have HI : Hid (ArgI w pi ni bs) := hi
    have HRw : Hid (Arg w pr nr raw) := hr
    clear hi hr
    go_enter Tryd.func12, Tryd.ntmps12
    go_wp2
    go_loopw [8] (fun i wr => ∃ k q : Nat, k ≤ ni ∧ i = .int .i64 k ∧ wr = w.drewN q ∧ Hid ((∀ i (hi : i < bs.length), i < k → 0 ≤ bs[i] ∧ bs[i] ≤ nr) ∧ (∀ i (hi : i < bs.length), i < k → 0 < i → bs.getD (i - 1) 0 ≤ bs[i]))) (fun i _ => ni - (intOf i).toNat)
    case atStart => exact ⟨0, 0, Nat.zero_le _, rfl, rfl, fun _ _ h => absurd h (Nat.not_lt_zero _), fun _ _ h => absurd h (Nat.not_lt_zero _)⟩
    case round =>
      obtain ⟨k, q, hk, rfl, rfl, HA⟩ := hrel
      by_cases hlt : k < ni
      · have hlen := HI.out.1
        obtain ⟨b, o, hp, hcell⟩ := HI.out.2.2 (by omega)
        subst hp
        have hck : k < bs.length := by omega
        have hrd : ∀ q, (w.drewN q).cell? ⟨b, o + k, none⟩ = some (.int .i64 bs[k]) := fun q => hcell k hck
        by_cases hlo : bs[k] < 0
        · go_wp2
          go_ret2
          exact ⟨insPost_no _ _ _ _, q, rfl⟩
        · by_cases hhi : (nr : Int) < bs[k]
          · go_wp2
            go_ret2
            exact ⟨insPost_no _ _ _ _, q, rfl⟩
          · have hlo' : 0 ≤ bs[k] := by omega
            have hhi' : bs[k] ≤ (nr : Int) := by omega
            clear hlo hhi
            by_cases h0 : k = 0
            · subst h0
              have hrd0 : ∀ q, (w.drewN q).cell? ⟨b, o, none⟩ = some (.int .i64 bs[0]) := fun q => hcell 0 hck
              have HN : Hid ((∀ i (hi : i < bs.length), i < 0 + 1 → 0 ≤ bs[i] ∧ bs[i] ≤ nr) ∧ (∀ i (hi : i < bs.length), i < 0 + 1 → 0 < i → bs.getD (i - 1) 0 ≤ bs[i])) :=
                ⟨fun i _ hk => by have : i = 0 := by omega
                                  subst this; exact ⟨hlo', hhi'⟩, fun i _ hk hp => by omega⟩
              clear hcell HA hrd
              go_wp2
              go_quiet (fail)
              go_wp2
              go_roundw
              case rel => exact ⟨0 + 1, _, by omega, by go_num, rfl, HN.out⟩
              case measure => simp [intOf]; omega
            · obtain ⟨k', rfl⟩ : ∃ k', k = k' + 1 := ⟨k - 1, by omega⟩
              have hck' : k' < bs.length := by omega
              have hrd' : ∀ q, (w.drewN q).cell? ⟨b, o + k', none⟩ = some (.int .i64 bs[k']) := fun q => hcell k' hck'
              by_cases hmono : bs[k' + 1] < bs[k']
              · clear hcell HA
                go_wp2
                go_quiet (fail)
                go_wp2
                go_ret2
                exact ⟨insPost_no _ _ _ _, _, World.drewN_drewN _ _ _⟩
              · have HN : Hid ((∀ i (hi : i < bs.length), i < k' + 1 + 1 → 0 ≤ bs[i] ∧ bs[i] ≤ nr) ∧ (∀ i (hi : i < bs.length), i < k' + 1 + 1 → 0 < i → bs.getD (i - 1) 0 ≤ bs[i])) :=
                  ⟨fun i hi hk => if e : i = k' + 1 then by subst e; exact ⟨hlo', hhi'⟩ else HA.out.1 i hi (by omega),
                   fun i hi hk hp => if e : i = k' + 1 then by subst e; rw [show k' + 1 - 1 = k' from by omega]; simp [List.getD, hck']; omega else HA.out.2 i hi (by omega) hp⟩
                clear hcell HA
                go_wp2
                go_quiet (fail)
                go_wp2
                go_roundw
                case rel => exact ⟨k' + 1 + 1, _, by omega, by go_num, rfl, HN.out⟩
                case measure => simp [intOf]; omega
      · have hkn : k = ni := by omega
        subst hkn
        have hlen := HI.out.1
        have hrl := HRw.out.1
        have HO : Hid ((∀ i (hi : i < bs.length), 0 ≤ bs[i] ∧ bs[i] ≤ raw.length) ∧ (∀ i (hi : i < bs.length), 0 < i → bs.getD (i - 1) 0 ≤ bs[i])) :=
          ⟨fun i hi => by rw [hrl]; exact HA.out.1 i hi (by omega), fun i hi hp => HA.out.2 i hi (by omega) hp⟩
        have HLen : Hid (bs.length = k ∧ raw.length = nr) := ⟨hlen, hrl⟩
        clear HA hlen hrl
        go_wp2_with fail
        refine (fieldCount_any pi k ci _ h3).mono ?_
        rintro e w2 ⟨rfl, rfl⟩
        by_cases h2' : 2 ≤ k
        · obtain ⟨m, rfl⟩ : ∃ m, k = m + 1 := ⟨k - 1, by omega⟩
          rw [show m + 1 - 1 = m from by omega]
          obtain ⟨b, o, hp, hcell⟩ := HI.out.2.2 (by omega)
          subst hp
          have hml : m < bs.length := by rw [HLen.out.1]; omega
          have hrd : ∀ q, (w.drewN q).cell? ⟨b, o + m, none⟩ = some (.int .i64 bs[m]) := fun q => hcell m hml
          have HAt : Hid (atOf nb raw bs = bs[m]) := by
            show _ = _
            unfold atOf
            rw [if_pos (by rw [HLen.out.1]; exact h2'), HLen.out.1, show m + 1 - 1 = m from by omega]
            simp [List.getD, hml]
          clear hcell
          by_cases hlow : bs[m] < 1
          · go_wp2
            go_ret2
            exact ⟨insPost_no _ _ _ _, q, rfl⟩
          · have HG : Hid (Good nb raw bs) := ⟨by rw [HLen.out.2]; omega, HO.out.1, HO.out.2, by rw [HAt.out]; omega⟩
            go_wp2
            go_ret2
            exact ⟨⟨_, true, rfl, fun _ => HG.out⟩, q, rfl⟩
        · rw [show k - 1 = 0 from by omega]
          go_wp2
          go_loopw [10, 11] (fun pv i wr => ∃ j : Nat, j ≤ nr ∧ pv = .int .i64 ((nr : Int) - nb) ∧ i = .int .i64 j ∧ wr = w.drewN q ∧ Hid (∀ t, t < j → raw[t]? ≠ some 10)) (fun _ i _ => nr - (intOf i).toNat)
          case atStart => exact ⟨0, Nat.zero_le _, rfl, rfl, rfl, fun _ h => absurd h (Nat.not_lt_zero _)⟩
          case round =>
            obtain ⟨j, hj, rfl, rfl, rfl, HB⟩ := hrel
            by_cases hjl : j < nr
            · obtain ⟨b, o, hp, hcell⟩ := HRw.out.2.2 (by omega)
              subst hp
              have hjr : j < raw.length := by rw [HLen.out.2]; exact hjl
              have hrd : ∀ q, (w.drewN q).cell? ⟨b, o + j, none⟩ = some (.int .u8 (raw[j].toNat : Int)) := fun q => hcell j hjr
              clear hcell
              cases hc : ((raw[j].toNat : Int) == 10) with
              | true =>
                have HG : Hid (Good nb raw bs) := by
                  refine ⟨by rw [HLen.out.2]; omega, HO.out.1, HO.out.2, ?_⟩
                  unfold atOf
                  rw [if_neg (by rw [HLen.out.1]; omega), hasNL_at raw j (by rw [List.getElem?_eq_getElem hjr, byte_eq _ 10 (by omega) hc]; rfl), if_pos rfl]
                  omega
                clear HB
                go_wp2
                go_ret2
                exact ⟨⟨_, true, rfl, fun _ => HG.out⟩, q, rfl⟩
              | false =>
                have HN : Hid (∀ t, t < j + 1 → raw[t]? ≠ some 10) := fun t ht => if e : t = j then by subst e; rw [List.getElem?_eq_getElem hjr]; intro e; exact byte_ne _ 10 hc (Option.some.inj e) else HB.out t (by omega)
                clear HB
                go_wp2
                go_roundw
                case rel => exact ⟨j + 1, by omega, by first | rfl | trivial, by go_num, by first | rfl | trivial, HN.out⟩
                case measure => simp [intOf]; omega
            · have HNL : Hid (Uf.hasNL raw = false) := noNL_list raw fun t ht => HB.out t (by have := HLen.out.2; omega)
              have HAt : Hid (atOf nb raw bs = (nr : Int) - nb) := by
                show _ = _
                unfold atOf
                rw [if_neg (by rw [HLen.out.1]; omega), HNL.out, HLen.out.2]; rfl
              clear HB
              by_cases hlow : (nr : Int) - nb < 1
              · go_wp2
                go_ret2
                exact ⟨insPost_no _ _ _ _, q, rfl⟩
              · have HG : Hid (Good nb raw bs) := ⟨by rw [HLen.out.2]; omega, HO.out.1, HO.out.2, by rw [HAt.out]; omega⟩
                go_wp2
                go_ret2
                exact ⟨⟨_, true, rfl, fun _ => HG.out⟩, q, rfl⟩
end Go.Proofs.Qxb6602839aDoor
