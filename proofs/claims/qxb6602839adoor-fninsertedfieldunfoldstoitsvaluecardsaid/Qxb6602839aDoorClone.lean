/-
  Seat b6602839aD: the walk of cloneBytes.
-/
import Derived.Test.Qxb6602839aDoorUnfold
import Derived.Lib.SliceRun
import Derived.Laws.OwnMore
namespace Go.Proofs.Qxb6602839aDoor
open Go.Shelf Go.RowKit

theorem info5 : (Tryd.prog.info? 5).map (fun i => (i.zero, i.size, i.bytes)) = some (some (.int .u8 0), 1, 1) := by kernel_rfl

/-- The first k bytes are copied into the new row. -/
def CpRel (w : World) (l : List UInt8) (g n k : Nat) (wr : World) : Prop :=
  ∃ xs, wr.ownsRow w.heap.size 5 1 (.slice (some ⟨g, 0, none⟩) n n) n xs ∧ Below w.heap.size w wr ∧ ∀ j (hj : j < l.length), j < k → xs[j]? = some (.int .u8 (l[j].toNat : Int))
theorem CpRel.cell {w : World} {l : List UInt8} {g n k : Nat} {wr : World} (h : CpRel w l g n k wr) (j : Nat) (hj : j < n) : ∃ v, wr.cell? ⟨g, j, none⟩ = some v := by
  obtain ⟨xs, hown, -, -⟩ := h
  have hl : xs.length = n := by have := hown.1; omega
  exact ⟨xs[j]'(by omega), by rw [hown.cellAt j (by omega)]; exact List.getElem?_eq_getElem _⟩
theorem CpRel.frozen {w : World} {l : List UInt8} {g n k : Nat} {wr : World} (h : CpRel w l g n k wr) (j : Nat) : wr.frozen? ⟨g, j, none⟩ = false := by
  obtain ⟨xs, hown, -, -⟩ := h
  exact hown.frozenAt j
theorem CpRel.step {w : World} {l : List UInt8} {g n k : Nat} {wr : World} (h : CpRel w l g n k wr) (hk : k < n) (hl : l.length = n) (hg : w.heap.size ≤ g) :
    CpRel w l g n (k + 1) (wr.setCell ⟨g, k, none⟩ (.int .u8 ((l[k]'(by omega)).toNat : Int))) := by
  obtain ⟨xs, hown, hb, hx⟩ := h
  have hlx : xs.length = n := by have := hown.1; omega
  refine ⟨_, (hown.stored k _).1, hb.setCell hg _, fun j hj hjk => ?_⟩
  by_cases e : j = k
  · subst e; rw [List.getElem?_set_self (by omega)]
  · rw [List.getElem?_set_ne (fun e' => e e'.symm)]
    exact hx j hj (by omega)
theorem CpRel.done {w : World} {l : List UInt8} {g n : Nat} {wr : World} (h : CpRel w l g n n wr) (hl : l.length = n) (hn : n ≤ 9223372036854775807) : Sl wr wr.heap.size (some ⟨g, 0, none⟩) n n l := by
  obtain ⟨xs, hown, hb, hx⟩ := h
  refine ⟨hl, Nat.le_refl _, hn, (fun e => by cases e), fun a ha => ?_, fun hp => ⟨g, 0, rfl, fun i hi => ?_⟩⟩
  · obtain rfl := Option.some.inj ha
    exact (hown.lt g rfl).2
  · rw [Nat.zero_add, hown.cellAt i (by omega)]
    exact hx i hi (by omega)

/-- A byte slice as an argument lies. -/
def Arg (w : World) (p : Option Addr) (n : Nat) (l : List UInt8) : Prop :=
  l.length = n ∧ (p = none → n = 0) ∧ (0 < n → ∃ b o, p = some ⟨b, o, none⟩ ∧ ∀ i (hi : i < l.length), w.cell? ⟨b, o + i, none⟩ = some (.int .u8 (l[i].toNat : Int)))

set_option maxHeartbeats 1000000 in
theorem clone_any (p : Option Addr) (n c : Nat) (l : List UInt8) (w : World) (h : Arg w p n l) (hn : n ≤ 1048576) :
    Calls Tryd.prog 7 #[.slice p n c] w fun e w' => (∃ p' c', e = .returned (.slice p' n c') ∧ Sl w' w'.heap.size p' n c' l) ∧ Below w.heap.size w w' := by
  have q22 : ∀ (w : World) (a : Option Addr) (n c n' c' : Nat), (binOp .eql 22 (.slice a n c) (.slice none n' c')).run Tryd.prog w = .ok (.bool a.isNone) w := fun w a n c n' c' => Lib.run_eql_slice_nil w _ _ a n c n' c' Tryd.underlying22
  cases p with
  | none =>
    have hn0 : n = 0 := h.2.1 rfl
    subst hn0
    have hl : l = [] := List.eq_nil_of_length_eq_zero h.1
    subst hl
    clear h
    go_enter Tryd.func7, Tryd.ntmps7
    go_wp2
    go_ret
    exact ⟨⟨none, 0, rfl, Sl.nil _ _⟩, Below.refl _ _⟩
  | some ad =>
    obtain ⟨i0, hi, hz0, hz1, hz2⟩ := info_parts info5
    have HS : Hid (Arg w (some ad) n l) := h
    clear h
    go_enter Tryd.func7, Tryd.ntmps7
    go_wp2_with (at_make; refine wpList_make_full _ rfl _ _ 22 rfl w.heap.size 5 i0 (.int .u8 0) 1 Tryd.underlying22 hi hz0 hz1 .i64 .i64 _ _ n rfl rfl rfl rfl ?b2 ?b3 ?b4 ?_)
    case b2 => rw [hz2]; omega
    case b3 => unfold maxLen; omega
    case b4 => exact Nat.le_refl _
    intro w1 hown hgrow
    have HC : Hid (CpRel w l w.heap.size n 0 w1) := ⟨_, hown, (Below.refl _ _).grown hgrow (Nat.le_refl _) (fun k hk => by cases hk), fun j _ hj => absurd hj (Nat.not_lt_zero _)⟩
    clear hown hgrow
    go_wp2
    go_loopw [4] (fun i wr => ∃ k : Nat, k ≤ n ∧ i = .int .i64 k ∧ CpRel w l w.heap.size n k wr) (fun i _ => n - (intOf i).toNat)
    case atStart => exact ⟨0, Nat.zero_le _, rfl, HC.out⟩
    case round =>
      obtain ⟨k, hk, rfl, HR⟩ := hrel
      by_cases hlt : k < n
      · have hs := HS.out
        have hlen := hs.1
        obtain ⟨b, o, hp, hcell⟩ := hs.2.2 (by omega)
        obtain rfl : ad = ⟨b, o, none⟩ := Option.some.inj hp
        have hck : k < l.length := by omega
        have hbB : b < w.heap.size := World.block_lt_of_cell? w ⟨b, o + k, none⟩ (hcell k hck)
        have hrd : wr.cell? ⟨b, o + k, none⟩ = some (.int .u8 (l[k].toNat : Int)) := by
          obtain ⟨xs, -, hb, -⟩ := HR
          exact (hb.cell (p := ⟨b, o + k, none⟩) hbB).trans (hcell k hck)
        obtain ⟨v, hwv⟩ := HR.cell k hlt
        have hfr := HR.frozen k
        have HN : Hid (CpRel w l w.heap.size n (k + 1) (wr.setCell ⟨w.heap.size, k, none⟩ (.int .u8 (l[k].toNat : Int)))) := HR.step hlt hlen (Nat.le_refl _)
        clear hs hlen hcell hp HR HC
        go_wp2
        go_roundw
        case rel => exact ⟨k + 1, by omega, by go_num, HN.out⟩
        case measure => simp [intOf]; omega
      · have hkn : k = n := by omega
        subst hkn
        have hlen := HS.out.1
        have HD : Hid (Sl wr wr.heap.size (some ⟨w.heap.size, 0, none⟩) k k l) := HR.done hlen (by omega)
        have HB : Hid (Below w.heap.size w wr) := by obtain ⟨xs, -, hb, -⟩ := HR; exact hb
        clear HR hlen HC
        go_wp2
        go_ret
        exact ⟨⟨_, k, rfl, HD.out⟩, HB.out⟩
end Go.Proofs.Qxb6602839aDoor
