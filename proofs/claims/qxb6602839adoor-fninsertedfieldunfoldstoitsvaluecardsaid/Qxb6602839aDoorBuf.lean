/-
  Seat b6602839aD: strings.Builder in this dump's numbers.
-/
import Derived.Test.Qxb6602839aDoorSl
namespace Go.Proofs.Qxb6602839aDoor
open Go.Shelf Go.RowKit

/-- A builder of the call's own (block b, from B on) that holds the bytes l. -/
def IsB (B b : Nat) (l : List UInt8) (w : World) : Prop := Lib.IsBuilder 58 5 B b (Lib.byteCells l) w

theorem at_below {B b : Nat} {p : Value} {bs : List Value} {w w' : World} (h : Lib.BuilderAt 58 5 B b p bs w) (hb : Below w.heap.size w w') : Lib.BuilderAt 58 5 B b p bs w' := by
  have hlt := h.lt
  obtain ⟨hB, v, hbk, hown, hne⟩ := h
  refine ⟨hB, v, (hb.block b hlt).trans hbk, ⟨hown.1, ?_⟩, hne⟩
  rcases hown.2 with hv | ⟨g, cap, cur, hv, h1, h2, h3⟩
  · exact Or.inl hv
  · have hg : g < w.heap.size := by
      rcases Nat.lt_or_ge g w.heap.size with h' | h'
      · exact h'
      · simp [Array.getElem?_eq_none h'] at h2
    exact Or.inr ⟨g, cap, cur, hv, h1, (hb.block g hg).trans h2, h3⟩
theorem IsB.below {B b : Nat} {l : List UInt8} {w w' : World} (h : IsB B b l w) (hb : Below w.heap.size w w') : IsB B b l w' := by
  rcases h with h | h
  · exact Or.inl (at_below h hb)
  · exact Or.inr (at_below h hb)

theorem grow_any (B n : Nat) (b : Nat) (w : World) (hB : B ≤ b) (hbk : w.heap[b]? = some (.cells #[.pointer none, .slice none 0 0] 58 (0, 0))) (hBw : B ≤ w.heap.size) (hn : n ≤ 281474976710656) :
    Calls Tryd.prog 25 #[.pointer (some ⟨b, 0, none⟩), .int .i64 n] w fun e w' => e = .returned (.tuple #[]) ∧ IsB B b [] w' ∧ Below B w w' := by
  refine Calls.mono (Any.Builder_Grow_fresh Tryd.lays165 Tryd.extra165 B b n w hB hbk hBw hn) ?_
  rintro e w' ⟨he, h1, h2⟩
  exact ⟨he, Or.inr h1, h2⟩
theorem writeByte_any (B b : Nat) (l : List UInt8) (c : UInt8) (w : World) (h : IsB B b l w) (hlen : l.length + 1 ≤ 140737488355328) (hBw : B ≤ w.heap.size) :
    Calls Tryd.prog 26 #[.pointer (some ⟨b, 0, none⟩), .int .u8 (c.toNat : Int)] w fun e w' => e = .returned .nilIface ∧ IsB B b (l ++ [c]) w' ∧ Below B w w' := by
  refine Calls.mono (Any.Builder_WriteByte Tryd.lays167 Tryd.extra167 B b (Lib.byteCells l) (c.toNat : Int) w h (by rw [Lib.byteCells_length]; exact hlen) hBw) ?_
  rintro e w' ⟨he, h1, h2⟩
  refine ⟨he, Or.inr ?_, h2⟩
  have : Lib.byteCells (l ++ [c]) = Lib.byteCells l ++ [.int .u8 (c.toNat : Int)] := by simp [Lib.byteCells]
  rw [this]; exact h1
theorem string_any (B b : Nat) (l : List UInt8) (w : World) (h : IsB B b l w) (hBw : B ≤ w.heap.size) :
    Calls Tryd.prog 30 #[.pointer (some ⟨b, 0, none⟩)] w fun e w' => e = .returned (.string ⟨l.toArray⟩) ∧ Below B w w' :=
  Any.Builder_String_any Tryd.lays169 Tryd.extra169 B b l w h hBw

set_option maxHeartbeats 1000000 in
set_option maxRecDepth 100000 in
theorem write_nil (B b : Nat) (l : List UInt8) (w : World) (h : IsB B b l w) :
    Calls Tryd.prog 28 #[.pointer (some ⟨b, 0, none⟩), .slice none 0 0] w fun e w' => e = .returned (.tuple #[.int .i64 0, .nilIface]) ∧ IsB B b l w' ∧ Below B w w' := by
  have cC : Calls Tryd.prog 43 #[.pointer (some ⟨b, 0, none⟩)] w fun e w' => e = .returned (.tuple #[]) ∧ (Lib.BuilderAt 58 5 B b (.pointer (some ⟨b, 0, none⟩)) (Lib.byteCells l) w' ∧ Below B w w') := Any.Builder_copyCheck Tryd.lays240 Tryd.extra165.toX72 B b (Lib.byteCells l) w h
  have info5 : (Tryd.prog.info? 5).map (fun i => (i.zero, i.size, i.bytes)) = some (some (.int .u8 0), 1, 1) := by kernel_rfl
  obtain ⟨i0, hi, hz0, hz1, hz2⟩ := info_parts info5
  go_enter Tryd.func28, Tryd.ntmps28
  go_wp2_with (go_at_call 43; refine cC.mono ?_)
  rintro e w1 ⟨rfl, h1', hb1⟩
  obtain ⟨hB, v, hbk, hown, hne⟩ := h1'
  have c1 : w1.cell? ⟨b, 1, none⟩ = some v := by rw [Lib.cell_of_heap hbk]; rfl
  have f1 : w1.frozen? ⟨b, 1, none⟩ = false := Lib.frozen_of_heap hbk 1
  have hform : ∃ ao n' cap, v = .slice ao n' cap := by
    rcases hown.2 with ⟨hv, _⟩ | ⟨g, cap, cur, hv, _⟩
    · exact ⟨_, _, _, hv⟩
    · exact ⟨_, _, _, hv⟩
  obtain ⟨ao, n', cap, rfl⟩ := hform
  go_wp2_with (at_builtin; refine wpList_append_own_none rfl _ _ 22 rfl B 5 i0 1 Tryd.underlying22 hi _ _ _ rfl hown rfl ?_)
  go_wp2
  go_ret2
  exact ⟨rfl, Or.inr (Lib.BuilderAt.put hB hbk hown (by decide)), hb1.setCell (p := ⟨b, 1, none⟩) hB _⟩

theorem write_any (B b : Nat) (l : List UInt8) (p : Option Addr) (n c : Nat) (t : List UInt8) (w : World) (h : IsB B b l w) (hs : Sl w B p n c t) (hlen : l.length + n ≤ 140737488355328) (hBw : B ≤ w.heap.size) :
    Calls Tryd.prog 28 #[.pointer (some ⟨b, 0, none⟩), .slice p n c] w fun e w' => e = .returned (.tuple #[.int .i64 n, .nilIface]) ∧ IsB B b (l ++ t) w' ∧ Below B w w' := by
  cases p with
  | none =>
    have hc := hs.2.2.2.1 rfl
    have hn : n = 0 := by have := hs.2.1; omega
    subst hc; subst hn
    have ht : t = [] := List.eq_nil_of_length_eq_zero hs.1
    subst ht
    rw [List.append_nil]
    exact write_nil B b l w h
  | some ad =>
    have hnews : ∀ j u, (Lib.byteCells t)[j]? = some u → w.cell? (ad.add j) = some u := by
      intro j u hj
      have hjl : j < t.length := by
        have := (List.getElem?_eq_some_iff.1 hj).1
        rwa [Lib.byteCells_length] at this
      obtain ⟨b', o, hp, hcl⟩ := hs.2.2.2.2.2 (by rw [← hs.1]; omega)
      have e1 : ad = ⟨b', o, none⟩ := Option.some.inj hp
      subst e1
      have hu : u = .int .u8 (t[j].toNat : Int) := by
        simp [Lib.byteCells, hjl] at hj; exact hj.symm
      rw [hu, ← hcl j hjl]
      simp only [Addr.add]; split <;> simp_all
    refine Calls.mono (Any7.Builder_Write Tryd.lays7n35 Tryd.lays240 Tryd.extra165 rfl rfl rfl B b (Lib.byteCells l) ad n c (Lib.byteCells t) w h (by rw [Lib.byteCells_length]; exact hs.1) hnews (hs.2.2.2.2.1 ad rfl) (by intro u hu; obtain ⟨x, _, rfl⟩ := List.mem_map.1 hu; rfl) (by rw [Lib.byteCells_length]; exact hlen) hBw) ?_
    rintro e w' ⟨he, h1, h2⟩
    refine ⟨he, Or.inr ?_, h2⟩
    have : Lib.byteCells (l ++ t) = Lib.byteCells l ++ Lib.byteCells t := by simp [Lib.byteCells]
    rw [this]; exact h1
end Go.Proofs.Qxb6602839aDoor
