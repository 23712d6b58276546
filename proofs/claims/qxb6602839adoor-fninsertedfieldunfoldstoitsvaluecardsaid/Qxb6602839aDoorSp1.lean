/-
  Seat b6602839aD: the law FnInsertedFieldUnfoldsToItsValue: the splice that insertField builds, what holds of its memory.
-/
import Derived.Test.Qxb6602839aDoorOl6
import Derived.Test.Qxb6602839aDoorShelfI
import Derived.Lib.AppendStr
namespace Go.Proofs.Qxb6602839aDoor
open Go.Shelf Go.RowKit

def intCells (l : List Int) : List Value := l.map fun x => Value.int .i64 x
theorem intCells_length (l : List Int) : (intCells l).length = l.length := by simp [intCells]
def zero40 : Obj := .cells #[.int .i64 0, .int .i64 0, nilS, nilS] 40
/-- The splice lies in block E: its bytes acc, its bounds bd; the result's block is untouched. -/
def SpRel (w : World) (E : Nat) (acc : List UInt8) (bd : List Int) (p2 : Option Addr) (c2 : Nat) (p3 : Option Addr) (c3 : Nat) (a0 a1 : Int) (wr : World) : Prop :=
  Below w.heap.size w wr ∧ w.heap.size < E ∧ wr.heap[w.heap.size]? = some zero40 ∧ wr.heap[E]? = some (.cells #[.int .i64 a0, .int .i64 a1, .slice p2 acc.length c2, .slice p3 bd.length c3] 40 (0, 0)) ∧
  wr.ownsRow w.heap.size 5 1 (.slice p2 acc.length c2) acc.length (Lib.byteCells acc) ∧ wr.ownsRow w.heap.size 3 1 (.slice p3 bd.length c3) bd.length (intCells bd)

/-- An append onto a row of type T: a block of another type stands. -/
theorem grown_keep {B T n b : Nat} {v : Value} {xs : List Value} {wr wa w1 : World} {cur : Array Value} {T' : TypeId} (hown : wr.ownsRow B T 1 v n xs) (hb : Below wr.heap.size wr wa) (hg : wa.grownBy w1 v.ownBlock) (hc : wr.heap[b]? = some (.cells cur T' (0, 0))) (hT : T' ≠ T) : w1.heap[b]? = some (.cells cur T' (0, 0)) := by
  have hlt := lt_of_block hc
  rw [hg.block b (Nat.lt_of_lt_of_le hlt hb.size) (fun e => own_ne hown hc hT e.symm), hb.block b hlt]
  exact hc
theorem own_keep {B T T' n n' : Nat} {v v' : Value} {xs xs' : List Value} {wr wa w1 : World} (hown : wr.ownsRow B T 1 v n xs) (hb : Below wr.heap.size wr wa) (hg : wa.grownBy w1 v.ownBlock) (hown' : wr.ownsRow B T' 1 v' n' xs') (hT : T' ≠ T) : w1.ownsRow B T' 1 v' n' xs' := by
  refine ⟨hown'.1, ?_⟩
  rcases hown'.2 with h | ⟨g, cap, cur, hv, h1, h2, h3⟩
  · exact Or.inl h
  · exact Or.inr ⟨g, cap, cur, hv, h1, grown_keep hown hb hg h2 hT, h3⟩
theorem own_set {B T n E j : Nat} {v u : Value} {xs : List Value} {wr : World} {cur : Array Value} (hown : wr.ownsRow B T 1 v n xs) (hE : wr.heap[E]? = some (.cells cur 40 (0, 0))) (hT : 40 ≠ T) : (wr.setCell ⟨E, j, none⟩ u).ownsRow B T 1 v n xs := by
  refine ⟨hown.1, ?_⟩
  rcases hown.2 with h | ⟨g, cap, cur', hv, h1, h2, h3⟩
  · exact Or.inl h
  · have hne : g ≠ E := by
      intro e
      rw [e, hE] at h2
      simp only [Option.some.injEq, Obj.cells.injEq] at h2
      exact hT h2.2.1
    exact Or.inr ⟨g, cap, cur', hv, h1, (set_other hne).trans h2, h3⟩
theorem own_slice {B T n : Nat} {v : Value} {xs : List Value} {w : World} (h : w.ownsRow B T 1 v n xs) : ∃ p c, v = .slice p n c := by
  rcases h.2 with ⟨rfl, h0⟩ | ⟨g, cap, cur, hv, _⟩
  · subst h0; exact ⟨_, _, rfl⟩
  · exact ⟨_, _, hv⟩

theorem SpRel.bytes {w wr wa w1 : World} {E : Nat} {acc t : List UInt8} {bd : List Int} {p2 p3 : Option Addr} {c2 c3 : Nat} {a0 a1 : Int} {p' : Option Addr} {c' : Nat} (h : SpRel w E acc bd p2 c2 p3 c3 a0 a1 wr) (hb : Below wr.heap.size wr wa)
    (ho : w1.ownsRow w.heap.size 5 1 (.slice p' (acc ++ t).length c') (acc ++ t).length (Lib.byteCells (acc ++ t))) (hg : wa.grownBy w1 (Value.slice p2 acc.length c2).ownBlock) :
    SpRel w E (acc ++ t) bd p' c' p3 c3 a0 a1 (w1.setCell ⟨E, 2, none⟩ (.slice p' (acc ++ t).length c')) := by
  obtain ⟨h1, h2, h3, h4, h5, h6⟩ := h
  have hE := grown_keep h5 hb hg h4 (by decide)
  have hR := grown_keep h5 hb hg h3 (by decide)
  have b1 : Below w.heap.size w w1 := (h1.trans (hb.mono h1.size)).grown hg (Nat.le_trans h1.size hb.size) (fun q hq => (h5.lt q hq).1)
  exact ⟨b1.setCell (p := ⟨E, 2, none⟩) (Nat.le_of_lt h2) _, h2, (set_other (Nat.ne_of_lt h2)).trans hR, set_same hE, own_set ho hE (by decide), own_set (own_keep h5 hb hg h6 (by decide)) hE (by decide)⟩
theorem SpRel.ints {w wr wa w1 : World} {E : Nat} {acc : List UInt8} {bd t : List Int} {p2 p3 : Option Addr} {c2 c3 : Nat} {a0 a1 : Int} {p' : Option Addr} {c' : Nat} (h : SpRel w E acc bd p2 c2 p3 c3 a0 a1 wr) (hb : Below wr.heap.size wr wa)
    (ho : w1.ownsRow w.heap.size 3 1 (.slice p' (bd ++ t).length c') (bd ++ t).length (intCells (bd ++ t))) (hg : wa.grownBy w1 (Value.slice p3 bd.length c3).ownBlock) :
    SpRel w E acc (bd ++ t) p2 c2 p' c' a0 a1 (w1.setCell ⟨E, 3, none⟩ (.slice p' (bd ++ t).length c')) := by
  obtain ⟨h1, h2, h3, h4, h5, h6⟩ := h
  have hE := grown_keep h6 hb hg h4 (by decide)
  have hR := grown_keep h6 hb hg h3 (by decide)
  have b1 : Below w.heap.size w w1 := (h1.trans (hb.mono h1.size)).grown hg (Nat.le_trans h1.size hb.size) (fun q hq => (h6.lt q hq).1)
  exact ⟨b1.setCell (p := ⟨E, 3, none⟩) (Nat.le_of_lt h2) _, h2, (set_other (Nat.ne_of_lt h2)).trans hR, set_same hE, own_set (own_keep h6 hb hg h5 (by decide)) hE (by decide), own_set ho hE (by decide)⟩
/-- What an append needs to find again behind it. -/
theorem SpRel.cellB {w wr wa w1 : World} {E : Nat} {acc : List UInt8} {bd : List Int} {p2 p3 : Option Addr} {c2 c3 : Nat} {a0 a1 : Int} (h : SpRel w E acc bd p2 c2 p3 c3 a0 a1 wr) (hb : Below wr.heap.size wr wa) (hg : wa.grownBy w1 (Value.slice p2 acc.length c2).ownBlock) :
    w1.cell? ⟨E, 2, none⟩ = some (.slice p2 acc.length c2) ∧ w1.frozen? ⟨E, 2, none⟩ = false := by
  have hE := grown_keep h.2.2.2.2.1 hb hg h.2.2.2.1 (by decide)
  exact ⟨by rw [Lib.cell_of_heap hE]; rfl, Lib.frozen_of_heap hE 2⟩
theorem SpRel.cellI {w wr wa w1 : World} {E : Nat} {acc : List UInt8} {bd : List Int} {p2 p3 : Option Addr} {c2 c3 : Nat} {a0 a1 : Int} (h : SpRel w E acc bd p2 c2 p3 c3 a0 a1 wr) (hb : Below wr.heap.size wr wa) (hg : wa.grownBy w1 (Value.slice p3 bd.length c3).ownBlock) :
    w1.cell? ⟨E, 3, none⟩ = some (.slice p3 bd.length c3) ∧ w1.frozen? ⟨E, 3, none⟩ = false := by
  have hE := grown_keep h.2.2.2.2.2 hb hg h.2.2.2.1 (by decide)
  exact ⟨by rw [Lib.cell_of_heap hE]; rfl, Lib.frozen_of_heap hE 3⟩
theorem SpRel.cells {w wr : World} {E : Nat} {acc : List UInt8} {bd : List Int} {p2 p3 : Option Addr} {c2 c3 : Nat} {a0 a1 : Int} (h : SpRel w E acc bd p2 c2 p3 c3 a0 a1 wr) :
    wr.cell? ⟨E, 0, none⟩ = some (.int .i64 a0) ∧ wr.cell? ⟨E, 1, none⟩ = some (.int .i64 a1) ∧ wr.cell? ⟨E, 2, none⟩ = some (.slice p2 acc.length c2) ∧ wr.cell? ⟨E, 3, none⟩ = some (.slice p3 bd.length c3) ∧ (∀ q, wr.frozen? ⟨E, q, none⟩ = false) ∧
    wr.cell? ⟨w.heap.size, 0, none⟩ = some (.int .i64 0) ∧ wr.cell? ⟨w.heap.size, 1, none⟩ = some (.int .i64 0) ∧ wr.cell? ⟨w.heap.size, 2, none⟩ = some nilS ∧ wr.cell? ⟨w.heap.size, 3, none⟩ = some nilS ∧ (∀ q, wr.frozen? ⟨w.heap.size, q, none⟩ = false) := by
  obtain ⟨-, -, h3, h4, -, -⟩ := h
  refine ⟨?_, ?_, ?_, ?_, fun q => Lib.frozen_of_heap h4 q, ?_, ?_, ?_, ?_, fun q => Lib.frozen_of_heap h3 q⟩
  all_goals first | (rw [Lib.cell_of_heap h4]; rfl) | (rw [Lib.cell_of_heap h3]; rfl)

theorem own_Sl {B : Nat} {l : List UInt8} {p : Option Addr} {c : Nat} {w : World} (h : w.ownsRow B 5 1 (.slice p l.length c) l.length (Lib.byteCells l)) : Sl w w.heap.size p l.length c l := by
  rcases h.2 with ⟨hv, h0⟩ | ⟨g, cap, cur, hv, -, hg, h1, h2, -⟩
  · have hl : l = [] := List.eq_nil_of_length_eq_zero h0
    subst hl
    cases hv
    exact Sl.nil _ _
  · cases hv
    refine ⟨rfl, h1, h2, (fun e => by cases e), fun a ha => ?_, fun hp => ⟨g, 0, rfl, fun i hi => ?_⟩⟩
    · obtain rfl := Option.some.inj ha
      exact (h.lt g rfl).2
    · rw [Nat.zero_add, h.cellAt i (by omega)]
      simp [Lib.byteCells, hi]
theorem own_SlI {B : Nat} {l : List Int} {p : Option Addr} {c : Nat} {w : World} (h : w.ownsRow B 3 1 (.slice p l.length c) l.length (intCells l)) : SlI w w.heap.size p l.length l := by
  rcases h.2 with ⟨hv, h0⟩ | ⟨g, cap, cur, hv, -, hg, h1, h2, -⟩
  · have hl : l = [] := List.eq_nil_of_length_eq_zero h0
    subst hl
    cases hv
    exact ⟨⟨rfl, fun _ => rfl, fun h => absurd h (Nat.lt_irrefl 0)⟩, fun a h => by cases h⟩
  · cases hv
    refine ⟨⟨rfl, (fun e => by cases e), fun hp => ⟨g, 0, rfl, fun i hi => ?_⟩⟩, fun a ha => ?_⟩
    · rw [Nat.zero_add, h.cellAt i (by omega)]
      simp [intCells, hi]
    · obtain rfl := Option.some.inj ha
      exact (h.lt g rfl).2

theorem spStart {w wc : World} (x : Int) (h1 : Below w.heap.size w wc) (h2 : wc.heap[w.heap.size]? = some zero40) : SpRel w wc.heap.size [] [] none 0 none 0 x x (wc.alloc (.cells #[.int .i64 x, .int .i64 x, .slice none 0 0, .slice none 0 0] 40)) := by
  have hb := lit_below wc (.cells #[.int .i64 x, .int .i64 x, .slice none 0 0, .slice none 0 0] 40)
  exact ⟨below_up h1 hb, lt_of_block h2, (hb.block _ (lt_of_block h2)).trans h2, new_block wc _, World.ownsRow_nil _ _ _ _, World.ownsRow_nil _ _ _ _⟩
theorem SpRel.below {w wr wx : World} {E : Nat} {acc : List UInt8} {bd : List Int} {p2 p3 : Option Addr} {c2 c3 : Nat} {a0 a1 : Int} (h : SpRel w E acc bd p2 c2 p3 c3 a0 a1 wr) (hb : Below wr.heap.size wr wx) : SpRel w E acc bd p2 c2 p3 c3 a0 a1 wx := by
  obtain ⟨h1, h2, h3, h4, h5, h6⟩ := h
  exact ⟨below_up h1 hb, h2, (hb.block _ (lt_of_block h3)).trans h3, (hb.block _ (lt_of_block h4)).trans h4, owns_below h5 hb, owns_below h6 hb⟩
theorem SpRel.drewN {w wr : World} {E : Nat} {acc : List UInt8} {bd : List Int} {p2 p3 : Option Addr} {c2 c3 : Nat} {a0 a1 : Int} (h : SpRel w E acc bd p2 c2 p3 c3 a0 a1 wr) (q : Nat) : SpRel w E acc bd p2 c2 p3 c3 a0 a1 (wr.drewN q) := h.below (below_drewN wr q _)
theorem SpRel.setStart {w wr : World} {E : Nat} {acc : List UInt8} {bd : List Int} {p2 p3 : Option Addr} {c2 c3 : Nat} {a0 a1 : Int} (h : SpRel w E acc bd p2 c2 p3 c3 a0 a1 wr) (y : Int) : SpRel w E acc bd p2 c2 p3 c3 y a1 (wr.setCell ⟨E, 0, none⟩ (.int .i64 y)) := by
  obtain ⟨h1, h2, h3, h4, h5, h6⟩ := h
  exact ⟨h1.setCell (p := ⟨E, 0, none⟩) (Nat.le_of_lt h2) _, h2, (set_other (Nat.ne_of_lt h2)).trans h3, set_same h4, own_set h5 h4 (by decide), own_set h6 h4 (by decide)⟩
theorem SpRel.lit {w wr : World} {E : Nat} {acc : List UInt8} {bd : List Int} {p2 p3 : Option Addr} {c2 c3 : Nat} {a0 a1 : Int} (h : SpRel w E acc bd p2 c2 p3 c3 a0 a1 wr) (x : Int) :
    SpRel w E acc [x] p2 c2 (some ⟨wr.heap.size, 0, none⟩) 1 a0 a1 ((wr.alloc (.cells #[.int .i64 x] 3)).setCell ⟨E, 3, none⟩ (.slice (some ⟨wr.heap.size, 0, none⟩) 1 1)) := by
  have h' := h.below (lit_below wr (.cells #[.int .i64 x] 3))
  have hE := h'.2.2.2.1
  obtain ⟨h1, h2, h3, h4, h5, h6⟩ := h'
  exact ⟨h1.setCell (p := ⟨E, 3, none⟩) (Nat.le_of_lt h2) _, h2, (set_other (Nat.ne_of_lt h2)).trans h3, set_same h4, own_set h5 h4 (by decide), own_set (World.ownsRow_lit wr #[.int .i64 x] 1 h.1.size (by decide) rfl) hE (by decide)⟩
def SpAny (w : World) (E : Nat) (wx : World) : Prop := ∃ acc bd p2 c2 p3 c3 a0 a1, acc.length ≤ 1048576 ∧ bd.length ≤ 1 ∧ SpRel w E acc bd p2 c2 p3 c3 a0 a1 wx

/-- Where a cut of a slice begins. -/
def cutA (a : Addr) (c lo : Nat) : Addr := if c = lo then a else a.add lo
theorem run_cut22 (a : Addr) (n c : Nat) (lo hi : Int) (w : World) (h0 : 0 ≤ lo) (h1 : lo ≤ hi) (h2 : hi ≤ (c : Int)) :
    (Instr.slice 22 (.slice (some a) n c) (some (.int .i64 lo)) (some (.int .i64 hi)) none).run Tryd.prog w = .ok (.slice (some (cutA a c lo.toNat)) (hi.toNat - lo.toNat) (c - lo.toNat)) w := by
  have u := run_underlying (P := Tryd.prog) Tryd.underlying22
  have hb1 : ∀ W : World, (Instr.sliceBound (.int .i64 hi) c .sliceAcap).run Tryd.prog W = .ok hi.toNat W := fun W => run_sliceBound W .i64 hi c _ (by omega) h2
  have hb2 : ∀ W : World, (Instr.sliceBound (.int .i64 lo) hi.toNat .sliceB).run Tryd.prog W = .ok lo.toNat W := fun W => run_sliceBound W .i64 lo hi.toNat _ h0 (by omega)
  have hh : (Instr.slice 22 (.slice (some a) n c) (some (.int .i64 lo)) (some (.int .i64 hi)) none).run Tryd.prog w = .ok (.slice (if c = lo.toNat then some a else some (a.add lo.toNat)) (hi.toNat - lo.toNat) (c - lo.toNat)) w := by
    simp [Instr.slice, u, Instr.sliceBounds, hb1, hb2, Tryd.sizeOf5, Result.andThen]
  rw [hh]
  unfold cutA
  split <;> rfl
theorem cut_cells {w : World} {b o c : Nat} {l : List UInt8} {lo hi : Nat} (h : ∀ i (hi : i < l.length), w.cell? ⟨b, o + i, none⟩ = some (.int .u8 (l[i].toNat : Int))) (h1 : lo ≤ hi) (h2 : hi ≤ l.length) (h3 : l.length ≤ c) :
    ∀ j u, (Lib.byteCells ((l.take hi).drop lo))[j]? = some u → w.cell? ((cutA ⟨b, o, none⟩ c lo).add j) = some u := by
  intro j u hu
  have hj : j < hi - lo := by
    rcases Nat.lt_or_ge j (hi - lo) with h' | h'
    · exact h'
    · rw [List.getElem?_eq_none (by rw [Lib.byteCells_length, List.length_drop, List.length_take]; omega)] at hu
      cases hu
  have e : (cutA ⟨b, o, none⟩ c lo).add j = ⟨b, o + (lo + j), none⟩ := by
    unfold cutA
    rw [if_neg (by omega)]
    simp only [Addr.add]
    split
    · split
      · simp only [Addr.mk.injEq, and_true, true_and]; omega
      · simp only [Addr.mk.injEq, and_true, true_and]; omega
    · split
      · simp only [Addr.mk.injEq, and_true, true_and]; omega
      · simp only [Addr.mk.injEq, and_true, true_and]; omega
  rw [e, h (lo + j) (by omega)]
  unfold Lib.byteCells at hu
  rw [List.getElem?_map, List.getElem?_drop, List.getElem?_take_of_lt (by omega), List.getElem?_eq_getElem (by omega)] at hu
  exact hu
theorem bytes_one (l : List UInt8) : ∀ u, u ∈ Lib.byteCells l → u.oneCell' = true := by
  intro u hu
  obtain ⟨b, _, rfl⟩ := List.mem_map.1 hu
  rfl

theorem indexByte_nl (l : List UInt8) : Lib.indexByte l 10 = if Uf.hasNL l then ((Uf.lineOf l).length : Int) else -1 := by
  induction l with
  | nil => rfl
  | cons c r ih =>
    by_cases hc : c = 10
    · subst hc; rfl
    · unfold Lib.indexByte
      rw [ih]
      have h0 : (c == 10) = false := beq_eq_false_iff_ne.2 hc
      rw [h0]
      simp only [Uf.hasNL, Uf.lineOf, if_neg hc]
      cases Uf.hasNL r
      · rfl
      · simp only [if_true, List.length_cons]
        have : (((Uf.lineOf r).length : Int) == -1) = false := beq_eq_false_iff_ne.2 (by omega)
        rw [this]; simp
theorem indexNL_any (B : Nat) (p : Option Addr) (n c : Nat) (l : List UInt8) (w : World) (h : Sl w B p n c l) (hp : 0 < n) :
    Calls Tryd.prog 33 #[.slice p n c, .int .u8 10] w fun e w' => e = .returned (.int .i64 (if Uf.hasNL l then ((Uf.lineOf l).length : Int) else -1)) ∧ w' = w := by
  rw [← indexByte_nl]
  obtain ⟨b, o, rfl, hcell⟩ := h.2.2.2.2.2 hp
  have := Any.bytes_IndexByte Tryd.lays187 b o n c (nums l) 10 w (by rw [nums_length]; exact h.1) (fun i hi => by
    have hi' : i < l.length := by rw [h.1]; exact hi
    rw [hcell i hi', nums_getD l i hi'])
  rw [bytesOf_nums] at this
  exact this

theorem spStr {w wr w1 : World} {E : Nat} {acc : List UInt8} {bd : List Int} {p2 p3 : Option Addr} {c2 c3 : Nat} {a0 a1 : Int} {p' : Option Addr} {c' : Nat} {s : ByteArray} (h : SpRel w E acc bd p2 c2 p3 c3 a0 a1 wr)
    (ho : w1.ownsRow w.heap.size 5 1 (.slice p' (acc.length + s.size) c') (acc.length + s.size) (Lib.byteCells acc ++ Lib.strCells s)) (hg : wr.grownBy w1 (Value.slice p2 acc.length c2).ownBlock) :
    SpRel w E (acc ++ s.data.toList) bd p' c' p3 c3 a0 a1 (w1.setCell ⟨E, 2, none⟩ (.slice p' (acc.length + s.size) c')) := by
  have e1 : (acc ++ s.data.toList).length = acc.length + s.size := by rw [List.length_append]; rfl
  have e2 : Lib.byteCells acc ++ Lib.strCells s = Lib.byteCells (acc ++ s.data.toList) := by
    unfold Lib.byteCells Lib.strCells
    rw [List.map_append]
  rw [e2, ← e1] at ho
  have := h.bytes (Below.refl _ _) ho hg
  rw [e1] at this
  exact this
theorem spInt {w wr w1 : World} {E : Nat} {acc : List UInt8} {bd : List Int} {p2 p3 : Option Addr} {c2 c3 : Nat} {a0 a1 x : Int} {p' : Option Addr} {c' : Nat} {ob : Obj} (h : SpRel w E acc bd p2 c2 p3 c3 a0 a1 wr)
    (ho : w1.ownsRow w.heap.size 3 1 (.slice p' (bd.length + 1) c') (bd.length + 1) (intCells bd ++ [.int .i64 x])) (hg : (wr.alloc ob).grownBy w1 (Value.slice p3 bd.length c3).ownBlock) :
    SpRel w E acc (bd ++ [x]) p2 c2 p' c' a0 a1 (w1.setCell ⟨E, 3, none⟩ (.slice p' (bd.length + 1) c')) := by
  have e1 : (bd ++ [x]).length = bd.length + 1 := by rw [List.length_append]; rfl
  have e2 : intCells bd ++ [.int .i64 x] = intCells (bd ++ [x]) := by
    unfold intCells
    rw [List.map_append]; rfl
  rw [e2, ← e1] at ho
  have := h.ints (lit_below wr ob) ho hg
  rw [e1] at this
  exact this
theorem spEnd {w wr wf : World} {E : Nat} {acc : List UInt8} {bd : List Int} {p2 p3 : Option Addr} {c2 c3 : Nat} {a0 a1 : Int} (h : SpRel w E acc bd p2 c2 p3 c3 a0 a1 wr)
    (hwf : wf = (((wr.setCell ⟨w.heap.size, 0, none⟩ (.int .i64 a0)).setCell ⟨w.heap.size, 1, none⟩ (.int .i64 a1)).setCell ⟨w.heap.size, 2, none⟩ (.slice p2 acc.length c2)).setCell ⟨w.heap.size, 3, none⟩ (.slice p3 bd.length c3)) :
    (wf.cell? ⟨w.heap.size, 0, none⟩ = some (.int .i64 a0) ∧ wf.cell? ⟨w.heap.size, 1, none⟩ = some (.int .i64 a1) ∧ wf.cell? ⟨w.heap.size, 2, none⟩ = some (.slice p2 acc.length c2) ∧ wf.cell? ⟨w.heap.size, 3, none⟩ = some (.slice p3 bd.length c3)) ∧
    Below w.heap.size w wf ∧ Sl wf wf.heap.size p2 acc.length c2 acc ∧ SlI wf wf.heap.size p3 bd.length bd := by
  obtain ⟨h1, h2, h3, h4, h5, h6⟩ := h
  have k0 : wr.heap[w.heap.size]? = some (.cells #[.int .i64 0, .int .i64 0, nilS, nilS] 40 (0, 0)) := h3
  have k1 := set_same (j := 0) (v := .int .i64 a0) k0
  have k2 := set_same (j := 1) (v := .int .i64 a1) k1
  have k3 := set_same (j := 2) (v := .slice p2 acc.length c2) k2
  have k4 := set_same (j := 3) (v := .slice p3 bd.length c3) k3
  have hRf : wf.heap[w.heap.size]? = some (.cells #[.int .i64 a0, .int .i64 a1, .slice p2 acc.length c2, .slice p3 bd.length c3] 40 (0, 0)) := by rw [hwf]; exact k4
  have o5 : wf.ownsRow w.heap.size 5 1 (.slice p2 acc.length c2) acc.length (Lib.byteCells acc) := by rw [hwf]; exact own_set (own_set (own_set (own_set h5 k0 (by decide)) k1 (by decide)) k2 (by decide)) k3 (by decide)
  have o3 : wf.ownsRow w.heap.size 3 1 (.slice p3 bd.length c3) bd.length (intCells bd) := by rw [hwf]; exact own_set (own_set (own_set (own_set h6 k0 (by decide)) k1 (by decide)) k2 (by decide)) k3 (by decide)
  refine ⟨⟨?_, ?_, ?_, ?_⟩, ?_, own_Sl o5, own_SlI o3⟩
  · rw [Lib.cell_of_heap hRf]; rfl
  · rw [Lib.cell_of_heap hRf]; rfl
  · rw [Lib.cell_of_heap hRf]; rfl
  · rw [Lib.cell_of_heap hRf]; rfl
  · rw [hwf]
    exact (((h1.setCell (p := ⟨w.heap.size, 0, none⟩) (Nat.le_refl _) _).setCell (p := ⟨w.heap.size, 1, none⟩) (Nat.le_refl _) _).setCell (p := ⟨w.heap.size, 2, none⟩) (Nat.le_refl _) _).setCell (p := ⟨w.heap.size, 3, none⟩) (Nat.le_refl _) _

def fieldOf (nm vl le : List UInt8) : List UInt8 := nm ++ [58, 32] ++ vl ++ le
/-- What insertField gives back. -/
def InfPost (nm vl : List UInt8) (e : Ending) (w' : World) : Prop :=
  ∃ a0 a1 p2 c2 p3 c3 A bd le, (le = [13, 10] ∨ le = [10]) ∧ A.length ≤ 1048580 ∧ bd.length ≤ 1 ∧
    e = .returned (.agg #[.int .i64 a0, .int .i64 a1, .slice p2 (A ++ fieldOf nm vl le).length c2, .slice p3 (bd ++ [(A.length : Int)] ++ [((A ++ fieldOf nm vl le).length : Int)]).length c3]) ∧
    Sl w' w'.heap.size p2 (A ++ fieldOf nm vl le).length c2 (A ++ fieldOf nm vl le) ∧ SlI w' w'.heap.size p3 (bd ++ [(A.length : Int)] ++ [((A ++ fieldOf nm vl le).length : Int)]).length (bd ++ [(A.length : Int)] ++ [((A ++ fieldOf nm vl le).length : Int)])
end Go.Proofs.Qxb6602839aDoor
