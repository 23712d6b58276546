/-
  Seat b6602839aD: the law FnInsertedFieldUnfoldsToItsValue: the walk of ZZInsertField.
-/
import Derived.Test.Qxb6602839aDoorSp2
namespace Go.Proofs.Qxb6602839aDoor
open Go.Shelf Go.RowKit

theorem Sl.up {w w' : World} {p : Option Addr} {n c : Nat} {l : List UInt8} (h : Sl w w.heap.size p n c l) (hb : Below w.heap.size w w') : Sl w' w'.heap.size p n c l := by
  obtain ⟨a1, a2, a3, a4, a5, a6⟩ := h.world hb
  exact ⟨a1, a2, a3, a4, fun a ha => Nat.lt_of_lt_of_le (a5 a ha) hb.size, a6⟩
theorem SlI.up {w w' : World} {p : Option Addr} {n : Nat} {l : List Int} (h : SlI w w.heap.size p n l) (hb : Below w.heap.size w w') : SlI w' w'.heap.size p n l := by
  obtain ⟨a1, a2⟩ := h.world hb
  exact ⟨a1, fun a ha => Nat.lt_of_lt_of_le (a2 a ha) hb.size⟩
theorem ChunkAt.wide {w : World} {B B' b o : Nat} {sg : List Int} (h : ChunkAt w B b o sg) (hB : B ≤ B') : ChunkAt w B' b o sg := by
  obtain ⟨hd, g, h1, h2, h3, h4, h5, h6⟩ := h
  exact ⟨hd, g, h1, h2, h3, Nat.lt_of_lt_of_le h4 hB, h5, h6⟩
/-- The Message's block. -/
theorem OL_of {w : World} {x0 x1 x2 c0 c1 c2 c3 : Value} {bs : List Int} (h : OlVal w w.heap.size c0 c1 c2 c3 bs) :
    OL (w.alloc (.cells #[x0, x1, x2, c0, c1, c2, c3] 51)) (w.alloc (.cells #[x0, x1, x2, c0, c1, c2, c3] 51)).heap.size w.heap.size 3 bs := by
  have hn := new_block w (.cells #[x0, x1, x2, c0, c1, c2, c3] 51)
  have hb := lit_below w (.cells #[x0, x1, x2, c0, c1, c2, c3] 51)
  have k : ∀ q v, #[x0, x1, x2, c0, c1, c2, c3][q]? = some v → (w.alloc (.cells #[x0, x1, x2, c0, c1, c2, c3] 51)).cell? ⟨w.heap.size, q, none⟩ = some v := fun q v hq => by rw [Lib.cell_of_heap hn]; exact hq
  refine ⟨lt_of_block hn, ?_⟩
  rcases h with ⟨h1, rfl, rfl, rfl⟩ | ⟨h1, ⟨rfl, hd, g, rfl, rfl, hg, hh, hc⟩, rp, q, cap, rfl, h3, h4, h5⟩
  · exact Or.inl ⟨h1, k 4 _ rfl, k 5 _ rfl, k 6 _ rfl⟩
  · refine Or.inr ⟨h1, ⟨hd, g, k 3 _ rfl, k 4 _ rfl, k 5 _ rfl, Nat.lt_of_lt_of_le hg hb.size, hh, fun j hj => (hb.cell (p := ⟨g, j, none⟩) hg).trans (hc j hj)⟩, rp, q, cap, k 6 _ rfl, h3, h4, fun hq => ?_⟩
    obtain ⟨r, e1, e2, e3⟩ := h5 hq
    exact ⟨r, e1, Nat.lt_of_lt_of_le e2 hb.size, fun t ht => ((e3 t ht).world e2 hb).wide hb.size⟩

/-- What ZZInsertField gives back. -/
def ZzPost (nm vl : List UInt8) (e : Ending) (w' : World) : Prop :=
  ∃ a0 a1 p2 c2 p3 c3 A bd le, (le = [13, 10] ∨ le = [10]) ∧ A.length ≤ 1048580 ∧ bd.length ≤ 1 ∧
    e = .returned (.tuple #[.int .i64 a0, .int .i64 a1, .slice p2 (A ++ fieldOf nm vl le).length c2, .slice p3 (bd ++ [(A.length : Int)] ++ [((A ++ fieldOf nm vl le).length : Int)]).length c3]) ∧
    Sl w' w'.heap.size p2 (A ++ fieldOf nm vl le).length c2 (A ++ fieldOf nm vl le) ∧ SlI w' w'.heap.size p3 (bd ++ [(A.length : Int)] ++ [((A ++ fieldOf nm vl le).length : Int)]).length (bd ++ [(A.length : Int)] ++ [((A ++ fieldOf nm vl le).length : Int)])

set_option maxHeartbeats 2000000 in
set_option maxRecDepth 50000 in
theorem zzInsert_any (st nm vl : ByteArray) (pb pr pi : Option Addr) (nb cb nr cr ni ci : Nat) (raw : List UInt8) (bs : List Int) (w : World) (hS : Sl w w.heap.size pr nr cr raw) (hI : SlI w w.heap.size pi ni bs) (hG : Good nb raw bs)
    (h1 : st.size ≤ 1048576) (h2 : nr ≤ 1048576) (h3 : ni ≤ 1048576) (h4 : nm.size ≤ 1048576) (h5 : vl.size ≤ 1048576) :
    Calls Tryd.prog 15 #[.string st, .slice pb nb cb, .slice pr nr cr, .slice pi ni ci, .string nm, .string vl] w fun e w' => ZzPost nm.data.toList vl.data.toList e w' ∧ Below w.heap.size w w' := by
  have hol := offsetList_any pi ni ci bs w hI h3 (fun j hj => ⟨(hG.2.1 j hj).1, by have := (hG.2.1 j hj).2; have := hS.1; omega⟩)
  have hbl : bs.length ≤ 1048576 := by have := hI.1.1; omega
  have HS : Hid (Sl w w.heap.size pr nr cr raw) := hS
  have HG : Hid (Good nb raw bs) := hG
  clear hS hI hG
  go_enter Tryd.func15, Tryd.ntmps15
  go_wp2_with fail
  refine hol.mono ?_
  rintro e w1 ⟨⟨c0, c1, c2, c3, rfl, hv⟩, hb1⟩
  have HV : Hid (OlVal w1 w1.heap.size c0 c1 c2 c3 bs) := hv
  clear hol hv
  have hb2 := lit_below w1 (.cells #[.string st, .slice pb nb cb, .slice pr nr cr, c0, c1, c2, c3] 51)
  have hn2 := new_block w1 (.cells #[.string st, .slice pb nb cb, .slice pr nr cr, c0, c1, c2, c3] 51)
  have hS2 := ((HS.out.up hb1).up hb2)
  have hif := insertField_any w1.heap.size st nm vl pb pr nb cb nr cr raw bs _ (lt_of_block hn2) (by rw [Lib.cell_of_heap hn2]; rfl) (by rw [Lib.cell_of_heap hn2]; rfl) (by rw [Lib.cell_of_heap hn2]; rfl) (OL_of HV.out) hS2 HG.out h1 h2 hbl h4 h5
  have HB2 : Hid (Below w.heap.size w (w1.alloc (.cells #[.string st, .slice pb nb cb, .slice pr nr cr, c0, c1, c2, c3] 51))) := below_up hb1 hb2
  clear hb2 hn2 hS2 HV HS HG hb1 hbl
  go_wp2_with fail
  refine hif.mono ?_
  rintro e w3 ⟨⟨a0, a1, p2, d2, p3, d3, A, bd, le, hle, hA, hbd, rfl, hsl, hsi⟩, hb3⟩
  have HB3 : Hid (Below w.heap.size w w3) := below_up HB2.out hb3
  have HSl : Hid (Sl w3 w3.heap.size p2 (A ++ fieldOf nm.data.toList vl.data.toList le).length d2 (A ++ fieldOf nm.data.toList vl.data.toList le)) := hsl
  have HSi : Hid (SlI w3 w3.heap.size p3 (bd ++ [(A.length : Int)] ++ [((A ++ fieldOf nm.data.toList vl.data.toList le).length : Int)]).length (bd ++ [(A.length : Int)] ++ [((A ++ fieldOf nm.data.toList vl.data.toList le).length : Int)])) := hsi
  have HP : Hid (∀ w', Below w3.heap.size w3 w' → ZzPost nm.data.toList vl.data.toList (.returned (.tuple #[.int .i64 a0, .int .i64 a1, .slice p2 (A ++ fieldOf nm.data.toList vl.data.toList le).length d2, .slice p3 (bd ++ [(A.length : Int)] ++ [((A ++ fieldOf nm.data.toList vl.data.toList le).length : Int)]).length d3])) w') := fun w' hb => ⟨a0, a1, p2, d2, p3, d3, A, bd, le, hle, hA, hbd, rfl, hsl.up hb, hsi.up hb⟩
  clear hsl hsi hif HB2 hb3 HSl HSi
  generalize (A ++ fieldOf nm.data.toList vl.data.toList le).length = n2 at *
  generalize (bd ++ [(A.length : Int)] ++ [(n2 : Int)]).length = n3 at *
  go_wp2_with fail
  go_quiet (fail)
  go_wp2
  refine bodyPost_ret (v := .tuple #[.int .i64 a0, .int .i64 a1, .slice p2 n2 d2, .slice p3 n3 d3]) (by simp [results, Tryd.results15, go_sem]) rfl ⟨HP.out _ (below_dN (lit_below w3 _) _), below_up HB3.out (below_dN (lit_below w3 _) _)⟩
end Go.Proofs.Qxb6602839aDoor
