/-
  Seat b6602839aD: the law FnInsertedFieldUnfoldsToItsValue: span.
-/
import Derived.Test.Qxb6602839aDoorOl2
import Derived.Deep.RegionWith
namespace Go.Proofs.Qxb6602839aDoor
open Go.Shelf Go.RowKit

theorem below_dN {B : Nat} {a w : World} (h : Below B a w) (q : Nat) : Below B a (w.drewN q) := h.trans (below_drewN w q B)

set_option maxHeartbeats 2000000 in
theorem span_any (B b i : Nat) (bs : List Int) (w : World) (h : OL w B b 3 bs) (hB : B ≤ w.heap.size) (hn : bs.length ≤ 1048576) (hi : i + 1 < bs.length) (hb : ∀ j (hj : j < bs.length), 0 ≤ bs[j] ∧ bs[j] ≤ 1048576) :
    Calls Tryd.prog 32 #[.pointer (some ⟨b, 0, none⟩), .int .i64 (i : Int)] w fun e w' => e = .returned (.agg #[.int .i64 bs[i], .int .i64 bs[i + 1]]) ∧ Below w.heap.size w w' := by
  have hA : ∀ W, Below B w W → Calls Tryd.prog 47 #[.pointer (some ⟨b, 3, none⟩), .int .i64 (i : Int)] W fun e w' => e = .returned (.int .i64 bs[i]) ∧ ∃ q, w' = W.drewN q := fun W hW => olAt_any B b 3 i bs W (h.world hW) hn (by omega) hb
  have hA' : ∀ W, Below B w W → Calls Tryd.prog 47 #[.pointer (some ⟨b, 3, none⟩), .int .i64 ((i : Int) + 1)] W fun e w' => e = .returned (.int .i64 bs[i + 1]) ∧ ∃ q, w' = W.drewN q := fun W hW => olAt_any B b 3 (i + 1) bs W (h.world hW) hn hi hb
  have hil : i ≤ 1048576 := by omega
  have hl0 : Below B w (w.alloc (.cells #[.int .i64 0, .int .i64 0] 38)) := (lit_below w _).mono hB
  have hl1 : Below w.heap.size w (w.alloc (.cells #[.int .i64 0, .int .i64 0] 38)) := lit_below w _
  have ew : IntKind.i64.wrap ((i : Int) + 1) = (i : Int) + 1 := by rw [IntKind.wrap_i64]; omega
  obtain ⟨x, hx⟩ : ∃ x, x = bs[i] := ⟨_, rfl⟩
  obtain ⟨y, hy⟩ : ∃ y, y = bs[i + 1] := ⟨_, rfl⟩
  rw [← hx, ← hy]
  rw [← hx] at hA
  rw [← hy] at hA'
  clear hb h hx hy hi
  go_enter Tryd.func32, Tryd.ntmps32
  go_wp2
  go_region_with (first
    | (go_at_call_of 47 (Value.int .i64 (i : Int)); refine (hA _ ?_).mono ?_; (repeat (first | exact hl0 | apply Below.drew | apply below_dN)); rintro e w' ⟨rfl, q, rfl⟩)
    | (go_at_call 47; refine (hA' _ ?_).mono ?_; (repeat (first | exact hl0 | apply Below.drew | apply below_dN)); rintro e w' ⟨rfl, q, rfl⟩))
  go_wp2
  refine bodyPost_ret (v := .agg #[.int .i64 x, .int .i64 y]) (by simp [results, Tryd.results32, go_sem]) rfl ⟨rfl, ?_⟩
  exact ((below_dN hl1 _).setCell (by exact Nat.le_refl _) _).setCell (by exact Nat.le_refl _) _
end Go.Proofs.Qxb6602839aDoor
