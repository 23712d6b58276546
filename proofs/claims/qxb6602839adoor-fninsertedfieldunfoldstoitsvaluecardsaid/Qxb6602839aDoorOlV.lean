/-
  Seat b6602839aD: the law FnInsertedFieldUnfoldsToItsValue: zzOffsetList: its values read off its memory; the chunk's start.
-/
import Derived.Test.Qxb6602839aDoorOl5
namespace Go.Proofs.Qxb6602839aDoor
open Go.Shelf Go.RowKit

/-- An offsetList's values. -/
def ChunkV (w : World) (B : Nat) (b0 n0 f0 : Value) (sg : List Int) : Prop :=
  n0 = nilS ∧ ∃ hd g, b0 = .int .i64 hd ∧ f0 = .slice (some ⟨g, 0, none⟩) sg.length sg.length ∧ g < B ∧ sg.head? = some hd ∧ ∀ j (hj : j < sg.length), w.cell? ⟨g, j, none⟩ = some (.int .i64 (sg[j] - hd))
def OlVal (w : World) (B : Nat) (c0 c1 c2 c3 : Value) (bs : List Int) : Prop :=
  (bs = [] ∧ c1 = nilS ∧ c2 = nilS ∧ c3 = nilS) ∨
  (bs ≠ [] ∧ ChunkV w B c0 c1 c2 (bs.take 1024) ∧ ∃ rp q cap, c3 = .slice rp q cap ∧ q * 1024 < bs.length ∧ bs.length ≤ (q + 1) * 1024 ∧
      (0 < q → ∃ r, rp = some ⟨r, 0, none⟩ ∧ r < B ∧ ∀ t, t < q → ChunkAt w B r (t * 3) ((bs.drop ((t + 1) * 1024)).take 1024)))
def OlPost (bs : List Int) (e : Ending) (w' : World) : Prop := ∃ c0 c1 c2 c3, e = .returned (.agg #[c0, c1, c2, c3]) ∧ OlVal w' w'.heap.size c0 c1 c2 c3 bs

theorem inStart {w wr wx : World} {bs : List Int} {k C g m : Nat} {hd : Int} (h : OlRel w bs k wr) (hb : Below wr.heap.size wr wx) (hC : wr.heap.size ≤ C) (hg : wr.heap.size ≤ g) (hne : C ≠ g) (hh : (seg bs k).head? = some hd) (hm : (seg bs k).length = m) {cur : Array Value}
    (h1 : wx.heap[C]? = some (.cells #[.int .i64 hd, nilS, .slice (some ⟨g, 0, none⟩) m m] 45 (0, 0))) (h2 : wx.heap[g]? = some (.cells cur 3 (0, 0))) (h3 : cur.size = m) : InRel w wr bs k C g 0 wx := by
  subst hm
  exact ⟨h, hb, hC, hg, hne, hd, cur, hh, h1, h2, h3, fun t _ ht => absurd ht (Nat.not_lt_zero _)⟩

def farZ (m : Nat) : Array Value := madeCells #[.int .i64 0] m
theorem farZ_size (m : Nat) : (farZ m).size = m := size_madeCells _ _
theorem run_make26 (w : World) (m : Nat) (hm : m ≤ 1048576) : (Instr.makeSlice 26 (.int .i64 (m : Int)) (.int .i64 (m : Int))).run Tryd.prog w = .ok (.slice (some ⟨w.heap.size, 0, none⟩) m m) (w.alloc (.cells (farZ m) 3)) := by
  obtain ⟨i0, hi, hz0, hz1, hz2⟩ := info_parts info3
  rw [run_make w 26 3 i0 (.int .i64 0) Tryd.underlying26 hi hz0 .i64 .i64 (m : Int) (m : Int) (by omega) (by omega) (by rw [hz2]; omega) (by omega), hz1, Int.toNat_natCast, Nat.mul_one]
  rfl

theorem info45 : (Tryd.prog.info? 45).map (fun i => (i.zero, i.size, i.bytes)) = some (some (.agg #[.int .i64 0, nilS, nilS]), 3, 56) := by kernel_rfl
def NextOk (w wr : World) (bs : List Int) (k' g j : Nat) (hd : Int) (l3 : Value) (xs : List Value) : Prop :=
  ∀ (v' : Value) (w1 : World) (ob : Obj), w1.ownsRow w.heap.size 45 3 v' (k' + 1) (xs ++ [.int .i64 hd, nilS, .slice (some ⟨g, 0, none⟩) j j]) → (wr.alloc ob).grownBy w1 l3.ownBlock → OlRel w bs (k' + 1 + 1) (w1.setCell ⟨w.heap.size + 1, 3, none⟩ v')
def MinIs (m n K : Nat) : Prop := m = min 1024 (n - K)
def TimesIs (K k : Nat) : Prop := K = k * 1024
def LastIs (k n : Nat) : Prop := k = 0 ∨ (k - 1) * 1024 < n
theorem MinIs.out {m n K : Nat} (h : MinIs m n K) : m = min 1024 (n - K) := h
theorem TimesIs.out {K k : Nat} (h : TimesIs K k) : K = k * 1024 := h
theorem LastIs.out {k n : Nat} (h : LastIs k n) : k = 0 ∨ (k - 1) * 1024 < n := h
theorem InRel.drew {w w0 : World} {bs : List Int} {k C g j : Nat} {wr : World} (h : InRel w w0 bs k C g j wr) : InRel w w0 bs k C g j wr.drew := by
  obtain ⟨h1, h2, h3⟩ := h
  exact ⟨h1, h2.drew, h3⟩
theorem inA {w wr : World} {bs : List Int} {k m : Nat} {hd : Int} (h : OlRel w bs k wr) (hh : (seg bs k).head? = some hd) (hm : (seg bs k).length = m) :
    InRel w wr bs k (wr.heap.size + 1) wr.heap.size 0 ((wr.alloc (.cells (farZ m) 3)).alloc (.cells #[.int .i64 hd, nilS, .slice (some ⟨wr.heap.size, 0, none⟩) m m] 45)) := by
  have es : (wr.alloc (.cells (farZ m) 3)).heap.size = wr.heap.size + 1 := by simp
  have n1 := new_block (wr.alloc (.cells (farZ m) 3)) (.cells #[.int .i64 hd, nilS, .slice (some ⟨wr.heap.size, 0, none⟩) m m] 45)
  rw [es] at n1
  refine inStart h (below_up (lit_below wr _) (lit_below _ _)) (Nat.le_succ _) (Nat.le_refl _) (by omega) hh hm n1 (cur := farZ m) ?_ (farZ_size m)
  rw [(lit_below (wr.alloc (.cells (farZ m) 3)) _).block wr.heap.size (lt_of_block (new_block wr _))]; exact new_block wr _
theorem inB {w wr : World} {bs : List Int} {k m : Nat} {hd : Int} (h : OlRel w bs k wr) (hh : (seg bs k).head? = some hd) (hm : (seg bs k).length = m) :
    InRel w wr bs k wr.heap.size (wr.heap.size + 1) 0 ((wr.alloc (.cells #[.int .i64 hd, nilS, .slice (some ⟨wr.heap.size + 1, 0, none⟩) m m] 45)).alloc (.cells (farZ m) 3)) := by
  have es : (wr.alloc (.cells #[.int .i64 hd, nilS, .slice (some ⟨wr.heap.size + 1, 0, none⟩) m m] 45)).heap.size = wr.heap.size + 1 := by simp
  have n1 := new_block (wr.alloc (.cells #[.int .i64 hd, nilS, .slice (some ⟨wr.heap.size + 1, 0, none⟩) m m] 45)) (.cells (farZ m) 3)
  rw [es] at n1
  refine inStart h (below_up (lit_below wr _) (lit_below _ _)) (Nat.le_refl _) (Nat.le_succ _) (by omega) hh hm ?_ (cur := farZ m) n1 (farZ_size m)
  rw [(lit_below (wr.alloc (.cells #[.int .i64 hd, nilS, .slice (some ⟨wr.heap.size + 1, 0, none⟩) m m] 45)) _).block wr.heap.size (lt_of_block (new_block wr _))]; exact new_block wr _


def NextCell (w wr : World) (l0 l1 l2 l3 : Value) : Prop := ∀ (w1 : World) (ob : Obj), (wr.alloc ob).grownBy w1 l3.ownBlock → w1.heap[w.heap.size + 1]? = some (.cells #[l0, l1, l2, l3] 48 (0, 0))
theorem nextCell {w wr : World} {l0 l1 l2 l3 : Value} {n : Nat} {xs : List Value} (hl : wr.heap[w.heap.size + 1]? = some (.cells #[l0, l1, l2, l3] 48 (0, 0))) (hown : wr.ownsRow w.heap.size 45 3 l3 n xs) : NextCell w wr l0 l1 l2 l3 := by
  intro w1 ob hgr
  have hlt := lt_of_block hl
  rw [hgr.block _ (Nat.lt_of_lt_of_le hlt (lit_below wr ob).size) (fun e => own_ne hown hl (by decide) e.symm), (lit_below wr ob).block _ hlt]
  exact hl

theorem FarOk.chunkV {w wr wr' : World} {bs : List Int} {t : Nat} {b0 n0 f0 : Value} (h : FarOk w wr bs t b0 n0 f0) (hR : wr.heap[w.heap.size]? = some zero48) (hk : ∀ b, b ≠ w.heap.size → wr'.heap[b]? = wr.heap[b]?) : ChunkV wr' wr'.heap.size b0 n0 f0 (seg bs t) := by
  obtain ⟨h1, hd, g, cur, h2, h3, h4, h5, h6, h7⟩ := h
  have hne : g ≠ w.heap.size := by
    intro e
    rw [e, hR] at h5
    unfold zero48 at h5
    simp at h5
  have h5' := (hk g hne).trans h5
  exact ⟨h1, hd, g, h2, h3, lt_of_block h5', h6, fun j hj => by rw [Lib.cell_of_heap h5']; exact h7 j hj⟩

theorem OlRel.shape {w wr : World} {bs : List Int} {k : Nat} {c0 c1 c2 c3 : Value} (h : OlRel w bs k wr) (hl : wr.heap[w.heap.size + 1]? = some (.cells #[c0, c1, c2, c3] 48 (0, 0))) :
    ∃ hd p a b p' a' b', c0 = .int .i64 hd ∧ c1 = .slice none 0 0 ∧ c2 = .slice p a b ∧ c3 = .slice p' a' b' := by
  obtain ⟨h1, h2, d0, d1, d2, d3, xs, h3, h4, h5, h6, h7⟩ := h
  rw [hl] at h3
  simp only [Option.some.injEq, Obj.cells.injEq, and_true, Array.mk.injEq, List.cons.injEq] at h3
  obtain ⟨rfl, rfl, rfl, rfl⟩ := h3
  have e3 : ∃ p' a' b', c3 = .slice p' a' b' := by
    rcases h4.2 with ⟨rfl, _⟩ | ⟨r, cap, cur, rfl, _⟩
    · exact ⟨_, _, _, rfl⟩
    · exact ⟨_, _, _, rfl⟩
  obtain ⟨p', a', b', e3⟩ := e3
  rcases Nat.eq_zero_or_pos k with rfl | hkp
  · obtain ⟨e0, e1, e2, -⟩ := h5 rfl
    exact ⟨0, _, _, _, p', a', b', e0, e1, e2, e3⟩
  · obtain ⟨e1, hd, g, cur, e0, e2, -⟩ := h6 hkp
    exact ⟨hd, _, _, _, p', a', b', e0, e1, e2, e3⟩

theorem OlRel.val {w wr wr' : World} {bs : List Int} {k n : Nat} {c0 c1 c2 c3 : Value} (h : OlRel w bs k wr) (hl : wr.heap[w.heap.size + 1]? = some (.cells #[c0, c1, c2, c3] 48 (0, 0))) (hlen : bs.length = n) (hn : n ≤ k * 1024) (hl2 : LastIs k n)
    (hk : ∀ b, b ≠ w.heap.size → wr'.heap[b]? = wr.heap[b]?) : OlVal wr' wr'.heap.size c0 c1 c2 c3 bs := by
  obtain ⟨h1, h2, d0, d1, d2, d3, xs, h3, h4, h5, h6, h7⟩ := h
  rw [hl] at h3
  simp only [Option.some.injEq, Obj.cells.injEq, and_true, Array.mk.injEq, List.cons.injEq] at h3
  obtain ⟨rfl, rfl, rfl, rfl⟩ := h3
  rcases Nat.eq_zero_or_pos k with rfl | hkp
  · obtain ⟨-, e1, e2, e3⟩ := h5 rfl
    exact Or.inl ⟨List.eq_nil_of_length_eq_zero (by omega), e1, e2, e3⟩
  · have hl3 : (k - 1) * 1024 < n := by
      rcases hl2 with h | h
      · omega
      · exact h
    have e0 : seg bs 0 = bs.take 1024 := by unfold seg; rw [Nat.zero_mul]; rfl
    have hc := (h6 hkp).chunkV h2 hk
    rw [e0] at hc
    have hnp : n ≠ 0 := by omega
    have hnil : bs ≠ [] := fun e => hnp (hlen.symm.trans (congrArg List.length e))
    refine Or.inr ⟨hnil, hc, ?_⟩
    rcases h4.2 with ⟨rfl, hk0⟩ | ⟨r, cap, cur, rfl, hr, hg, -, -, hcs, htk⟩
    · have q1 : 0 * 1024 < bs.length := by rw [hlen, Nat.zero_mul]; exact Nat.pos_of_ne_zero hnp
      have hk1 : k = 1 := Nat.le_antisymm (Nat.sub_eq_zero_iff_le.1 hk0) hkp
      have q2 : bs.length ≤ (0 + 1) * 1024 := by rw [hlen, Nat.zero_add]; rw [hk1] at hn; exact hn
      exact ⟨none, 0, 0, rfl, q1, q2, fun h => absurd h (Nat.lt_irrefl 0)⟩
    · have hne : r ≠ w.heap.size := by
        intro e
        rw [e, h2] at hg
        unfold zero48 at hg
        simp at hg
      have hg' := (hk r hne).trans hg
      have q1 : (k - 1) * 1024 < bs.length := by rw [hlen]; exact hl3
      have q2 : bs.length ≤ (k - 1 + 1) * 1024 := by rw [hlen, show k - 1 + 1 = k from by omega]; exact hn
      refine ⟨_, k - 1, cap, rfl, q1, q2, fun _ => ⟨r, rfl, lt_of_block hg', fun t ht => ?_⟩⟩
      obtain ⟨b0, n0, f0, a1, a2, a3, a4⟩ := h7 t (by omega)
      obtain ⟨x1, hd, g, x2, x3, x4, x5, x6⟩ := a4.chunkV h2 hk
      have rd : ∀ q v, xs[q]? = some v → wr'.cell? ⟨r, q, none⟩ = some v := by
        intro q v hq
        rw [Lib.cell_of_heap hg', ← Array.getElem?_toList]
        rw [← htk] at hq
        rw [List.getElem?_take] at hq
        split at hq
        · exact hq
        · cases hq
      refine ⟨hd, g, ?_, ?_, ?_, x4, x5, x6⟩
      · rw [rd _ _ a1, x2]
      · rw [rd _ _ a2, x1]
      · rw [rd _ _ a3, x3]; rfl
end Go.Proofs.Qxb6602839aDoor
