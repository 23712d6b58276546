/-
  Seat b6602839aD: the law FnInsertedFieldUnfoldsToItsValue: zzOffsetList: a chunk filled is a chunk laid.
-/
import Derived.Test.Qxb6602839aDoorOl4
namespace Go.Proofs.Qxb6602839aDoor
open Go.Shelf Go.RowKit

theorem own_ne {w : World} {B e k T n b : Nat} {v : Value} {xs : List Value} {cs : Array Value} {fr : Nat × Nat} (hown : w.ownsRow B e k v n xs) (hb : w.heap[b]? = some (.cells cs T fr)) (hTe : T ≠ e) : v.ownBlock ≠ some b := by
  rcases hown.2 with ⟨rfl, _⟩ | ⟨g, cap, cur, rfl, _, hg, _⟩
  · simp [Value.ownBlock]
  · intro h
    simp only [Value.ownBlock, Option.some.injEq] at h
    subst h
    rw [hg] at hb
    simp only [Option.some.injEq, Obj.cells.injEq] at hb
    exact hTe hb.2.1.symm
/-- The filled chunk's values. -/
theorem InRel.done {w w0 : World} {bs : List Int} {k C g : Nat} {wr : World} (h : InRel w w0 bs k C g (seg bs k).length wr) :
    ∃ hd, (seg bs k).head? = some hd ∧ wr.cell? ⟨C, 0, none⟩ = some (.int .i64 hd) ∧ wr.cell? ⟨C, 1, none⟩ = some nilS ∧ wr.cell? ⟨C, 2, none⟩ = some (.slice (some ⟨g, 0, none⟩) (seg bs k).length (seg bs k).length) ∧
      FarOk w wr bs k (.int .i64 hd) nilS (.slice (some ⟨g, 0, none⟩) (seg bs k).length (seg bs k).length) ∧ OlRel w bs k wr ∧ w.heap.size + 1 < w0.heap.size ∧ w0.heap.size ≤ g := by
  obtain ⟨h1, h2, h3, h4, h5, hd, cur, h6, h7, h8, h9, h10⟩ := h
  have hL : w.heap.size + 1 < w0.heap.size := by
    obtain ⟨-, -, c0, c1, c2, c3, xs, hl, -⟩ := h1
    exact lt_of_block hl
  exact ⟨hd, h6, by rw [Lib.cell_of_heap h7]; rfl, by rw [Lib.cell_of_heap h7]; rfl, by rw [Lib.cell_of_heap h7]; rfl,
    ⟨rfl, hd, g, cur, rfl, rfl, by omega, h8, h6, fun j hj => h10 j hj hj⟩, h1.below h2, hL, h4⟩

theorem InRel.first {w w0 : World} {bs : List Int} {C g : Nat} {wr : World} {hd : Int} (h : InRel w w0 bs 0 C g (seg bs 0).length wr) (hh : (seg bs 0).head? = some hd) :
    OlRel w bs 1 (((wr.setCell ⟨w.heap.size + 1, 0, none⟩ (.int .i64 hd)).setCell ⟨w.heap.size + 1, 1, none⟩ nilS).setCell ⟨w.heap.size + 1, 2, none⟩ (.slice (some ⟨g, 0, none⟩) (seg bs 0).length (seg bs 0).length)) := by
  obtain ⟨hd', e0, -, -, -, hf, ho, hL, hg⟩ := h.done
  obtain rfl : hd' = hd := Option.some.inj (e0.symm.trans hh)
  obtain ⟨h1, h2, c0, c1, c2, c3, xs, h3, h4, h5, -, -⟩ := ho
  obtain ⟨rfl, rfl, rfl, rfl⟩ := h5 rfl
  have hLs : w.heap.size ≤ w.heap.size + 1 := Nat.le_succ _
  refine ⟨((h1.setCell (p := ⟨w.heap.size + 1, 0, none⟩) hLs _).setCell (p := ⟨w.heap.size + 1, 1, none⟩) hLs _).setCell (p := ⟨w.heap.size + 1, 2, none⟩) hLs _, ?_, _, _, _, nilS, [], set_same (set_same (set_same h3)), World.ownsRow_nil _ _ _ _, fun h => by omega, fun _ => ?_, fun t ht => by omega⟩
  · rw [set_other (by omega), set_other (by omega), set_other (by omega)]; exact h2
  · refine hf.keep fun g' cur hg' _ => ?_
    have hne : g' ≠ w.heap.size + 1 := by
      intro e
      rw [e, h3] at hg'
      simp at hg'
    rw [set_other hne, set_other hne, set_other hne]

theorem InRel.next {w w0 : World} {bs : List Int} {k C g : Nat} {wr w1 : World} {hd : Int} {v v' : Value} {xs : List Value} {o : Obj} (h : InRel w w0 bs (k + 1) C g (seg bs (k + 1)).length wr) (hh : (seg bs (k + 1)).head? = some hd)
    (hv : wr.cell? ⟨w.heap.size + 1, 3, none⟩ = some v) (hown : wr.ownsRow w.heap.size 45 3 v k xs)
    (hc : ∀ t, t + 1 < k + 1 → ∃ b0 n0 f0, xs[t * 3]? = some b0 ∧ xs[t * 3 + 1]? = some n0 ∧ xs[t * 3 + 2]? = some f0 ∧ FarOk w wr bs (t + 1) b0 n0 f0)
    (hown' : w1.ownsRow w.heap.size 45 3 v' (k + 1) (xs ++ [.int .i64 hd, nilS, .slice (some ⟨g, 0, none⟩) (seg bs (k + 1)).length (seg bs (k + 1)).length])) (hgr : (wr.alloc o).grownBy w1 v.ownBlock) :
    OlRel w bs (k + 2) (w1.setCell ⟨w.heap.size + 1, 3, none⟩ v') := by
  obtain ⟨hd', e0, -, -, -, hf, ho, hL, hg⟩ := h.done
  obtain rfl : hd' = hd := Option.some.inj (e0.symm.trans hh)
  obtain ⟨h1, h2, c0, c1, c2, c3, ys, h3, -, -, h6, -⟩ := ho
  have hcv : c3 = v := by
    rw [Lib.cell_of_heap h3] at hv
    exact Option.some.inj hv
  subst hcv
  have hLs : w.heap.size ≤ w.heap.size + 1 := Nat.le_succ _
  have hws : w.heap.size ≤ wr.heap.size := h1.size
  -- a block of another type than the row's stands
  have kept : ∀ (b : Nat) (cur : Array Value) (T : TypeId), wr.heap[b]? = some (.cells cur T (0, 0)) → T ≠ 45 → w1.heap[b]? = wr.heap[b]? := by
    intro b cur T hb hT
    have hlt := lt_of_block hb
    have hne : some b ≠ c3.ownBlock := by
      intro e
      rcases hown.2 with ⟨rfl, _⟩ | ⟨g', cap, cur', rfl, _, hg', _⟩
      · simp [Value.ownBlock] at e
      · simp only [Value.ownBlock, Option.some.injEq] at e
        subst e
        rw [hg'] at hb
        simp only [Option.some.injEq, Obj.cells.injEq] at hb
        exact hT hb.2.1.symm
    rw [hgr.block b (Nat.lt_of_lt_of_le hlt (lit_below wr o).size) hne, (lit_below wr o).block b hlt]
  have b1 : Below w.heap.size wr w1 := ((Below.refl _ _).alloc hws o).grown hgr (Nat.le_trans hws (lit_below wr o).size) (fun q hq => (hown.lt q hq).1)
  have hL1 : w1.heap[w.heap.size + 1]? = some (.cells #[c0, c1, c2, c3] 48 (0, 0)) := (kept _ _ _ h3 (by decide)).trans h3
  have kpF : ∀ (g' : Nat) (cur : Array Value), wr.heap[g']? = some (.cells cur 3 (0, 0)) → w.heap.size ≤ g' → (w1.setCell ⟨w.heap.size + 1, 3, none⟩ v').heap[g']? = wr.heap[g']? := by
    intro g' cur hg' _
    have hne : g' ≠ w.heap.size + 1 := by
      intro e
      rw [e, h3] at hg'
      simp at hg'
    rw [set_other hne]; exact kept g' cur 3 hg' (by decide)
  have hneR : v'.ownBlock ≠ some (w.heap.size + 1) := own_ne hown' hL1 (by decide)
  have lx : xs.length = k * 3 := hown.1
  have hset : (w1.setCell ⟨w.heap.size + 1, 3, none⟩ v').heap[w.heap.size + 1]? = some (.cells #[c0, c1, c2, v'] 48 (0, 0)) := set_same hL1
  have hrow : (w1.setCell ⟨w.heap.size + 1, 3, none⟩ v').ownsRow w.heap.size 45 3 v' (k + 2 - 1) (xs ++ [.int .i64 hd', nilS, .slice (some ⟨g, 0, none⟩) (seg bs (k + 1)).length (seg bs (k + 1)).length]) :=
    hown'.kept (row := some (w.heap.size + 1)) ⟨rfl, rfl, rfl, by simp [World.setCell], fun b _ hb => Below.heap_setCell _ _ _ _ (fun e => hb (by simp [e]))⟩ (Or.inr hneR)
  refine ⟨(h1.trans b1).setCell (p := ⟨w.heap.size + 1, 3, none⟩) hLs _, ?_, c0, c1, c2, v', _, hset, hrow, fun h => by omega, fun _ => (h6 (by omega)).keep kpF, fun t ht => ?_⟩
  · rw [set_other (by omega)]
    exact (kept _ _ _ h2 (by decide)).trans h2
  · by_cases e : t = k
    · subst e
      refine ⟨_, _, _, ?_, ?_, ?_, hf.keep kpF⟩
      · rw [List.getElem?_append_right (by omega), lx, Nat.sub_self]; rfl
      · rw [List.getElem?_append_right (by omega), lx, show t * 3 + 1 - t * 3 = 1 from by omega]; rfl
      · rw [List.getElem?_append_right (by omega), lx, show t * 3 + 2 - t * 3 = 2 from by omega]; rfl
    · obtain ⟨b0, n0, f0, a1, a2, a3, a4⟩ := hc t (by omega)
      exact ⟨b0, n0, f0, by rw [List.getElem?_append_left (by omega)]; exact a1, by rw [List.getElem?_append_left (by omega)]; exact a2, by rw [List.getElem?_append_left (by omega)]; exact a3, a4.keep kpF⟩
end Go.Proofs.Qxb6602839aDoor
