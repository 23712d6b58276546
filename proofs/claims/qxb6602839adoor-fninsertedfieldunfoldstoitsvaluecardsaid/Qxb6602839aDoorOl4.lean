/-
  Seat b6602839aD: the law FnInsertedFieldUnfoldsToItsValue: zzOffsetList, what holds of its memory.
-/
import Derived.Test.Qxb6602839aDoorOl3
namespace Go.Proofs.Qxb6602839aDoor
open Go.Shelf Go.RowKit

abbrev nilS : Value := .slice none 0 0
/-- Chunk t's offsets. -/
def seg (bs : List Int) (t : Nat) : List Int := (bs.drop (t * 1024)).take 1024
theorem seg_len (bs : List Int) (t : Nat) : (seg bs t).length = min 1024 (bs.length - t * 1024) := by unfold seg; rw [List.length_take, List.length_drop]
theorem seg_at (bs : List Int) (t j : Nat) (h : j < (seg bs t).length) (h' : t * 1024 + j < bs.length) : (seg bs t)[j] = bs[t * 1024 + j] := by
  have hl := seg_len bs t
  have e : (seg bs t)[j]? = bs[t * 1024 + j]? := by
    unfold seg
    rw [List.getElem?_take_of_lt (by omega), List.getElem?_drop]
  rw [List.getElem?_eq_getElem h, List.getElem?_eq_getElem h'] at e
  exact Option.some.inj e
theorem seg_head (bs : List Int) (t : Nat) (h : t * 1024 < bs.length) : (seg bs t).head? = some bs[t * 1024] := by
  unfold seg
  rw [head_take _ 1024 (by omega), List.head?_drop, List.getElem?_eq_getElem h]

/-- A chunk's three values, and its row in memory. -/
def FarOk (w wr : World) (bs : List Int) (t : Nat) (b0 n0 f0 : Value) : Prop :=
  n0 = nilS ∧ ∃ hd g cur, b0 = .int .i64 hd ∧ f0 = .slice (some ⟨g, 0, none⟩) (seg bs t).length (seg bs t).length ∧ w.heap.size ≤ g ∧ wr.heap[g]? = some (.cells cur 3 (0, 0)) ∧ (seg bs t).head? = some hd ∧ ∀ j (hj : j < (seg bs t).length), cur[j]? = some (.int .i64 ((seg bs t)[j] - hd))
theorem lt_of_block {w : World} {g : Nat} {o : Obj} (h : w.heap[g]? = some o) : g < w.heap.size := by
  rcases Nat.lt_or_ge g w.heap.size with h' | h'
  · exact h'
  · simp [Array.getElem?_eq_none h'] at h
theorem FarOk.keep {w wr wr' : World} {bs : List Int} {t : Nat} {b0 n0 f0 : Value} (h : FarOk w wr bs t b0 n0 f0) (hk : ∀ g cur, wr.heap[g]? = some (.cells cur 3 (0, 0)) → w.heap.size ≤ g → wr'.heap[g]? = wr.heap[g]?) : FarOk w wr' bs t b0 n0 f0 := by
  obtain ⟨h1, hd, g, cur, h2, h3, h4, h5, h6, h7⟩ := h
  exact ⟨h1, hd, g, cur, h2, h3, h4, (hk g cur h5 h4).trans h5, h6, h7⟩

def zero48 : Obj := .cells #[.int .i64 0, nilS, nilS, nilS] 48
/-- k chunks are laid; the list lies in block size + 1, the result in block size. -/
def OlRel (w : World) (bs : List Int) (k : Nat) (wr : World) : Prop :=
  Below w.heap.size w wr ∧ wr.heap[w.heap.size]? = some zero48 ∧
  ∃ c0 c1 c2 c3 xs, wr.heap[w.heap.size + 1]? = some (.cells #[c0, c1, c2, c3] 48 (0, 0)) ∧ wr.ownsRow w.heap.size 45 3 c3 (k - 1) xs ∧
    (k = 0 → c0 = .int .i64 0 ∧ c1 = nilS ∧ c2 = nilS ∧ c3 = nilS) ∧ (0 < k → FarOk w wr bs 0 c0 c1 c2) ∧
    (∀ t, t + 1 < k → ∃ b0 n0 f0, xs[t * 3]? = some b0 ∧ xs[t * 3 + 1]? = some n0 ∧ xs[t * 3 + 2]? = some f0 ∧ FarOk w wr bs (t + 1) b0 n0 f0)

theorem owns_below {B e k n : Nat} {v : Value} {xs : List Value} {w w' : World} (h : w.ownsRow B e k v n xs) (hb : Below w.heap.size w w') : w'.ownsRow B e k v n xs := by
  refine ⟨h.1, ?_⟩
  rcases h.2 with hv | ⟨g, cap, cur, hv, h1, h2, h3⟩
  · exact Or.inl hv
  · exact Or.inr ⟨g, cap, cur, hv, h1, (hb.block g (lt_of_block h2)).trans h2, h3⟩
theorem OlRel.below {w wr wr' : World} {bs : List Int} {k : Nat} (h : OlRel w bs k wr) (hb : Below wr.heap.size wr wr') : OlRel w bs k wr' := by
  obtain ⟨h1, h2, c0, c1, c2, c3, xs, h3, h4, h5, h6, h7⟩ := h
  have kp : ∀ g cur, wr.heap[g]? = some (.cells cur 3 (0, 0)) → w.heap.size ≤ g → wr'.heap[g]? = wr.heap[g]? := fun g cur hg _ => hb.block g (lt_of_block hg)
  refine ⟨below_up h1 hb, (hb.block _ (lt_of_block h2)).trans h2, c0, c1, c2, c3, xs, (hb.block _ (lt_of_block h3)).trans h3, owns_below h4 hb, h5, fun hk => (h6 hk).keep kp, fun t ht => ?_⟩
  obtain ⟨b0, n0, f0, a1, a2, a3, a4⟩ := h7 t ht
  exact ⟨b0, n0, f0, a1, a2, a3, a4.keep kp⟩
theorem OlRel.start (w : World) (bs : List Int) : OlRel w bs 0 ((w.alloc zero48).alloc zero48) := by
  have hb := below_up (lit_below w zero48) (lit_below (w.alloc zero48) zero48)
  have e1 : ((w.alloc zero48).alloc zero48).heap[w.heap.size]? = some zero48 := by
    rw [(lit_below (w.alloc zero48) zero48).block w.heap.size (lt_of_block (new_block w zero48))]; exact new_block w zero48
  have e2 : ((w.alloc zero48).alloc zero48).heap[w.heap.size + 1]? = some zero48 := by
    have := new_block (w.alloc zero48) zero48
    have es : (w.alloc zero48).heap.size = w.heap.size + 1 := by simp
    rw [es] at this; exact this
  refine ⟨hb, e1, _, _, _, _, [], e2, World.ownsRow_nil _ _ _ _, fun _ => ⟨rfl, rfl, rfl, rfl⟩, fun h => absurd h (Nat.lt_irrefl 0), fun t ht => absurd ht (Nat.not_lt_zero _)⟩

/-- The chunk that is being filled: its box in block C, its row in block g, j of its offsets laid. 'w0': the world at the round's head. -/
def InRel (w w0 : World) (bs : List Int) (k C g j : Nat) (wr : World) : Prop :=
  OlRel w bs k w0 ∧ Below w0.heap.size w0 wr ∧ w0.heap.size ≤ C ∧ w0.heap.size ≤ g ∧ C ≠ g ∧
  ∃ hd cur, (seg bs k).head? = some hd ∧ wr.heap[C]? = some (.cells #[.int .i64 hd, nilS, .slice (some ⟨g, 0, none⟩) (seg bs k).length (seg bs k).length] 45 (0, 0)) ∧ wr.heap[g]? = some (.cells cur 3 (0, 0)) ∧ cur.size = (seg bs k).length ∧
    ∀ t (ht : t < (seg bs k).length), t < j → cur[t]? = some (.int .i64 ((seg bs k)[t] - hd))
theorem InRel.box {w w0 : World} {bs : List Int} {k C g j : Nat} {wr : World} (h : InRel w w0 bs k C g j wr) : wr.cell? ⟨C, 2, none⟩ = some (.slice (some ⟨g, 0, none⟩) (seg bs k).length (seg bs k).length) := by
  obtain ⟨-, -, -, -, -, hd, cur, -, h1, -⟩ := h
  rw [Lib.cell_of_heap h1]; rfl
theorem InRel.cell {w w0 : World} {bs : List Int} {k C g j : Nat} {wr : World} (h : InRel w w0 bs k C g j wr) (t : Nat) (ht : t < (seg bs k).length) : ∃ v, wr.cell? ⟨g, t, none⟩ = some v := by
  obtain ⟨-, -, -, -, -, hd, cur, -, -, h2, h3, -⟩ := h
  exact ⟨cur[t]'(by omega), by rw [Lib.cell_of_heap h2]; exact Array.getElem?_eq_getElem _⟩
theorem InRel.frozen {w w0 : World} {bs : List Int} {k C g j : Nat} {wr : World} (h : InRel w w0 bs k C g j wr) (t : Nat) : wr.frozen? ⟨g, t, none⟩ = false := by
  obtain ⟨-, -, -, -, -, hd, cur, -, -, h2, -⟩ := h
  exact Lib.frozen_of_heap h2 t
theorem set_same {w : World} {g j : Nat} {cur : Array Value} {T : TypeId} {v : Value} (h : w.heap[g]? = some (.cells cur T (0, 0))) : (w.setCell ⟨g, j, none⟩ v).heap[g]? = some (.cells (cur.setIfInBounds j v) T (0, 0)) := by
  simp [World.setCell, Array.getElem?_modify, h]
theorem set_other {w : World} {g j b : Nat} {v : Value} (h : b ≠ g) : (w.setCell ⟨g, j, none⟩ v).heap[b]? = w.heap[b]? := Below.heap_setCell w ⟨g, j, none⟩ v b h
theorem InRel.step {w w0 : World} {bs : List Int} {k C g j : Nat} {wr : World} (h : InRel w w0 bs k C g j wr) (hj : j < (seg bs k).length) (hd : Int) (hh : (seg bs k).head? = some hd) :
    InRel w w0 bs k C g (j + 1) (wr.setCell ⟨g, j, none⟩ (.int .i64 ((seg bs k)[j] - hd))) := by
  obtain ⟨h1, h2, h3, h4, h5, hd', cur, h6, h7, h8, h9, h10⟩ := h
  obtain rfl : hd' = hd := Option.some.inj (h6.symm.trans hh)
  refine ⟨h1, h2.setCell h4 _, h3, h4, h5, hd', _, h6, (set_other h5).trans h7, set_same h8, by rw [Array.size_setIfInBounds]; exact h9, fun t ht htj => ?_⟩
  by_cases e : t = j
  · subst e; rw [Array.getElem?_setIfInBounds_self_of_lt (by omega)]
  · rw [Array.getElem?_setIfInBounds_ne (fun e' => e e'.symm)]
    exact h10 t ht (by omega)
end Go.Proofs.Qxb6602839aDoor
