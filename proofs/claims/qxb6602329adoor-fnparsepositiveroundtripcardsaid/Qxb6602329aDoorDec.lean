/-
  Seat b6602329aD: the walk of 'decimal' (the digits of a whole number, written from the right into an array).
-/
import Derived.Test.Qxb6602329aDoorWalks
import Derived.Laws.IdiomStrings
namespace Go.Proofs.Qxb6602329aDoor
open Go.Shelf Go.RowKit

/-- What holds at each round's head: m is left, the bytes ds stand behind q. -/
def DecRel (n : Nat) (w : World) (m q : Nat) (ds : List UInt8) (wr : World) : Prop :=
  q + ds.length = 24 ∧ m * 10 ^ ds.length ≤ n ∧ Pp.val m ds = n ∧ Pp.allDig ds = true ∧ Below w.heap.size w wr ∧ (∀ j, j < 24 → ∃ c, wr.cell? ⟨w.heap.size, j, none⟩ = some (.int .u8 c)) ∧
  (∀ j, j < 24 → wr.frozen? ⟨w.heap.size, j, none⟩ = false) ∧ (∀ j (hj : j < ds.length), wr.cell? ⟨w.heap.size, q + j, none⟩ = some (.int .u8 (ds[j].toNat : Int)))

def zeros24 : Array Value := #[.int .u8 0, .int .u8 0, .int .u8 0, .int .u8 0, .int .u8 0, .int .u8 0, .int .u8 0, .int .u8 0, .int .u8 0, .int .u8 0, .int .u8 0, .int .u8 0, .int .u8 0, .int .u8 0, .int .u8 0, .int .u8 0, .int .u8 0, .int .u8 0, .int .u8 0, .int .u8 0, .int .u8 0, .int .u8 0, .int .u8 0, .int .u8 0]

theorem zeros24_at (j : Nat) (h : j < 24) : zeros24[j]? = some (.int .u8 0) := by
  have e : zeros24 = Array.replicate 24 (.int .u8 0) := rfl
  rw [e, Array.getElem?_replicate, if_pos h]

theorem decRel_start (n : Nat) (w : World) : DecRel n w n 24 [] (w.alloc (.cells zeros24 27)) := by
  refine ⟨rfl, by simp, Pp.val_nil n, rfl, (Below.refl _ _).alloc (Nat.le_refl _) _, fun j hj => ⟨0, ?_⟩, fun j hj => ?_, fun j hj => absurd hj (by simp)⟩
  · rw [World.cell?_alloc_mark]; exact zeros24_at j hj
  · rw [World.frozen?_alloc_mark]; simp

theorem decRel_step {n : Nat} {w : World} {m q : Nat} {ds : List UInt8} {wr : World} (h : DecRel n w m (q + 1) ds wr) (v : Int) (hv : v = 48 + (m : Int) % 10) :
    DecRel n w (m / 10) q (UInt8.ofNat (48 + m % 10) :: ds) (wr.setCell ⟨w.heap.size, q, none⟩ (.int .u8 v)) := by
  obtain ⟨h1, h2, h3, h4, h5, h6, h7, h8⟩ := h
  have hc : (UInt8.ofNat (48 + m % 10)).toNat = 48 + m % 10 := by
    rw [UInt8.toNat_ofNat']
    have : m % 10 < 10 := Nat.mod_lt _ (by omega)
    omega
  refine ⟨by rw [List.length_cons]; omega, ?_, ?_, ?_, h5.setCell (Nat.le_refl _) _, fun j hj => ?_, fun j hj => ?_, fun j hj => ?_⟩
  · rw [List.length_cons, Nat.pow_succ]
    refine Nat.le_trans ?_ h2
    have e : m / 10 * (10 ^ ds.length * 10) = (m / 10 * 10) * 10 ^ ds.length := by rw [Nat.mul_assoc, Nat.mul_comm 10]
    rw [e]
    exact Nat.mul_le_mul_right _ (Nat.div_mul_le_self m 10)
  · rw [Pp.val_cons, hc]
    rw [show m / 10 * 10 + (48 + m % 10 - 48) = m from by omega]
    exact h3
  · unfold Pp.allDig at *
    rw [List.all_cons, h4, Bool.and_true]
    exact (Pp.isDig_iff _).2 (by rw [hc]; omega)
  · by_cases e : j = q
    · subst e
      obtain ⟨c, hcc⟩ := h6 j hj
      exact ⟨_, World.cell?_setCell_same _ _ _ hcc⟩
    · obtain ⟨c, hcc⟩ := h6 j hj
      exact ⟨c, by rw [World.cell?_setCell_other]; exact hcc; intro hh; apply e; exact (congrArg Addr.off hh).symm⟩
  · rw [World.frozen?_setCell]; exact h7 j hj
  · cases j with
    | zero =>
      obtain ⟨c, hcc⟩ := h6 q (by omega)
      rw [Nat.add_zero, World.cell?_setCell_same _ _ _ hcc, List.getElem_cons_zero, hc, hv]
      exact congrArg (fun x : Int => some (Value.int .u8 x)) (by omega)
    | succ j =>
      rw [World.cell?_setCell_other, List.getElem_cons_succ, ← h8 j (by simpa using hj), show q + (j + 1) = q + 1 + j from by omega]
      intro hh
      have := congrArg Addr.off hh
      simp at this

theorem decRel_pos {n : Nat} {w : World} {m q : Nat} {ds : List UInt8} {wr : World} (h : DecRel n w m q ds wr) (hn : n ≤ 2147483647) (hm : 0 < m) : 1 ≤ q ∧ q ≤ 24 := by
  obtain ⟨h1, h2, -⟩ := h
  refine ⟨?_, by omega⟩
  apply Nat.pos_of_ne_zero
  intro hq
  have hl : ds.length = 24 := by omega
  rw [hl] at h2
  have h3 : 1 * 10 ^ 24 ≤ m * 10 ^ 24 := Nat.mul_le_mul_right _ hm
  have h4 : (10 : Nat) ^ 24 = 1000000000000000000000000 := by decide
  omega

theorem decRel_lt {n : Nat} {w : World} {q : Nat} {ds : List UInt8} {wr : World} (h : DecRel n w 0 q ds wr) (hn : 1 ≤ n) : q < 24 := by
  obtain ⟨h1, h2, h3, -⟩ := h
  cases ds with
  | nil => rw [Pp.val_nil] at h3; omega
  | cons c r => rw [List.length_cons] at h1; omega
theorem run_cut24 (wr : World) (b q : Nat) (h : q < 24) :
    (Instr.sliceAt 27 (.pointer (some ⟨b, 0, none⟩)) (some (.int .i64 (q : Int))) none none).run Tryd.prog wr = .ok (.slice (some ⟨b, q, none⟩) (24 - q) (24 - q)) wr := by
  have e1 : Tryd.prog.arrayLen 27 = 24 := by kernel_rfl
  have e2 : Tryd.prog.elem 27 = 5 := by kernel_rfl
  rw [run_sliceAt_array_l wr 27 ⟨b, 0, none⟩ (by rw [e1, e2]; exact Tryd.underlying27) .i64 (q : Int) (by omega) (by rw [e1]; omega), e1, e2]
  have hz := Tryd.sizeOf5 wr
  rw [hz]
  have hne : ¬ (24 = q) := by omega
  simp [Result.andThen, slicedAt, hne, Addr.add]
  intro h0; exact h0.symm
theorem decRel_conv {n : Nat} {w : World} {m q : Nat} {ds : List UInt8} {wr : World} (h : DecRel n w m q ds wr) (cap : Nat) :
    (convert 28 9 (.slice (some ⟨w.heap.size, q, none⟩) (24 - q) cap)).run Tryd.prog wr = .ok (.string ⟨ds.toArray⟩) wr := by
  obtain ⟨h1, -, -, -, -, -, -, h8⟩ := h
  rw [show 24 - q = ds.length from by omega]
  exact run_convert_bytes_back wr 28 9 5 ⟨w.heap.size, q, none⟩ cap ds Tryd.underlying28 Tryd.underlying5 Tryd.underlying9 (fun j hj => by rw [← h8 j hj]; simp only [Addr.add]; split <;> simp_all)

set_option maxHeartbeats 400000 in
theorem decimal_any (n : Nat) (w : World) (h1 : 1 ≤ n) (h2 : n ≤ 2147483647) :
    Calls Tryd.prog 9 #[.int .i64 n] w fun e w' => (∃ ds : List UInt8, e = .returned (.string ⟨ds.toArray⟩) ∧ Pp.val 0 ds = n ∧ Pp.allDig ds = true ∧ ds.length ≤ 24) ∧ Below w.heap.size w w' := by
  go_enter Tryd.func9, Tryd.ntmps9
  go_wp2
  go_loopw [0, 4] (fun nv iv wr => ∃ (m q : Nat) (ds : List UInt8), nv = .int .i64 m ∧ iv = .int .i64 q ∧ m ≤ 2147483647 ∧ q ≤ 24 ∧ DecRel n w m q ds wr) (fun nv _ _ => (intOf nv).toNat)
  case atStart => exact ⟨n, 24, [], rfl, rfl, h2, Nat.le_refl _, decRel_start n w⟩
  case round =>
    obtain ⟨m, q, ds, rfl, rfl, hm, hq, HR⟩ := hrel
    by_cases h0 : 0 < m
    · obtain ⟨q', rfl⟩ : ∃ q', q = q' + 1 := ⟨q - 1, by have := decRel_pos HR h2 h0; omega⟩
      obtain ⟨c, hcell⟩ := HR.2.2.2.2.2.1 q' (by omega)
      have hfr := HR.2.2.2.2.2.2.1 q' (by omega)
      go_wp2
      go_roundw
      case rel => exact ⟨m / 10, q', _, by go_num, rfl, by omega, by omega, decRel_step HR _ rfl⟩
      case measure => simp [intOf]; omega
    · have hm0 : m = 0 := by omega
      subst hm0
      have hq24 : q < 24 := decRel_lt HR h1
      have hconv := decRel_conv HR
      have hcut := run_cut24 wr w.heap.size q hq24
      go_wp2
      go_ret
      exact ⟨⟨ds, rfl, HR.2.2.1, HR.2.2.2.1, by have := HR.1; omega⟩, HR.2.2.2.2.1⟩
end Go.Proofs.Qxb6602329aDoor
