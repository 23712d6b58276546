/-
  Seat b6602839aD: the law FnInsertedFieldUnfoldsToItsValue: an offsetList in memory; NumFields.
-/
import Derived.Test.Qxb6602839aDoorOl1
namespace Go.Proofs.Qxb6602839aDoor
open Go.Shelf Go.RowKit

theorem ar1 {t i n : Nat} (h : t + 1 = i / 1024) (hi : i < n) : (t + 1) * 1024 < n := by omega
theorem ar2 {t i : Nat} (h : t + 1 = i / 1024) : (t + 1) * 1024 + i % 1024 = i := by omega
theorem head_take (l : List Int) (n : Nat) (h : 0 < n) : (l.take n).head? = l.head? := by
  cases n with
  | zero => omega
  | succ n => cases l <;> rfl
/-- A chunk of an offsetList in its far form. -/
def ChunkAt (w : World) (B b o : Nat) (seg : List Int) : Prop :=
  ∃ hd g, w.cell? ⟨b, o, none⟩ = some (.int .i64 hd) ∧ w.cell? ⟨b, o + 1, none⟩ = some (.slice none 0 0) ∧ w.cell? ⟨b, o + 2, none⟩ = some (.slice (some ⟨g, 0, none⟩) seg.length seg.length) ∧ g < B ∧ seg.head? = some hd ∧
    ∀ j (hj : j < seg.length), w.cell? ⟨g, j, none⟩ = some (.int .i64 (seg[j] - hd))
/-- An offsetList that holds bs. -/
def OL (w : World) (B b o : Nat) (bs : List Int) : Prop :=
  b < B ∧ ((bs = [] ∧ w.cell? ⟨b, o + 1, none⟩ = some (.slice none 0 0) ∧ w.cell? ⟨b, o + 2, none⟩ = some (.slice none 0 0) ∧ w.cell? ⟨b, o + 3, none⟩ = some (.slice none 0 0)) ∨
   (bs ≠ [] ∧ ChunkAt w B b o (bs.take 1024) ∧ ∃ rp q cap, w.cell? ⟨b, o + 3, none⟩ = some (.slice rp q cap) ∧ q * 1024 < bs.length ∧ bs.length ≤ (q + 1) * 1024 ∧
      (0 < q → ∃ r, rp = some ⟨r, 0, none⟩ ∧ r < B ∧ ∀ t, t < q → ChunkAt w B r (t * 3) ((bs.drop ((t + 1) * 1024)).take 1024))))

theorem ChunkAt.world {w w' : World} {B b o : Nat} {seg : List Int} (h : ChunkAt w B b o seg) (hb : b < B) (hw : Below B w w') : ChunkAt w' B b o seg := by
  obtain ⟨hd, g, h1, h2, h3, h4, h5, h6⟩ := h
  exact ⟨hd, g, (hw.cell (p := ⟨b, o, none⟩) hb).trans h1, (hw.cell (p := ⟨b, o + 1, none⟩) hb).trans h2, (hw.cell (p := ⟨b, o + 2, none⟩) hb).trans h3, h4, h5, fun j hj => (hw.cell (p := ⟨g, j, none⟩) h4).trans (h6 j hj)⟩
theorem OL.world {w w' : World} {B b o : Nat} {bs : List Int} (h : OL w B b o bs) (hw : Below B w w') : OL w' B b o bs := by
  obtain ⟨hb, h | ⟨hne, hc, rp, q, cap, h1, h2, h3, h4⟩⟩ := h
  · exact ⟨hb, Or.inl ⟨h.1, (hw.cell (p := ⟨b, o + 1, none⟩) hb).trans h.2.1, (hw.cell (p := ⟨b, o + 2, none⟩) hb).trans h.2.2.1, (hw.cell (p := ⟨b, o + 3, none⟩) hb).trans h.2.2.2⟩⟩
  · refine ⟨hb, Or.inr ⟨hne, hc.world hb hw, rp, q, cap, (hw.cell (p := ⟨b, o + 3, none⟩) hb).trans h1, h2, h3, fun hq => ?_⟩⟩
    obtain ⟨r, hr, hrB, ht⟩ := h4 hq
    exact ⟨r, hr, hrB, fun t htq => (ht t htq).world hrB hw⟩

theorem olLen_any (B b o : Nat) (bs : List Int) (w : World) (h : OL w B b o bs) (hn : bs.length ≤ 1048576) :
    Calls Tryd.prog 46 #[.pointer (some ⟨b, o, none⟩)] w fun e w' => e = .returned (.int .i64 (bs.length : Int)) ∧ ∃ q, w' = w.drewN q := by
  obtain ⟨_, ⟨rfl, h1, h2, h3⟩ | ⟨hne, ⟨hd, g, k0, k1, k2, k3, k4, k5⟩, rp, q, cap, h1, h2, h3, h4⟩⟩ := h
  · exact listLen_first b o none none 0 0 0 w (by omega) h1 h2 h3
  · by_cases hq : q = 0
    · subst hq
      have hl : (bs.take 1024).length = bs.length := by rw [List.length_take]; omega
      rw [hl] at k2
      exact listLen_first b o _ rp bs.length bs.length cap w hn k1 k2 h1
    · obtain ⟨p, rfl⟩ : ∃ p, q = p + 1 := ⟨q - 1, by omega⟩
      obtain ⟨r, rfl, hrB, ht⟩ := h4 (by omega)
      obtain ⟨hd', g', a0, a1, a2, a3, a4, a5⟩ := ht p (by omega)
      have hl : ((bs.drop ((p + 1) * 1024)).take 1024).length = bs.length - (p + 1) * 1024 := by rw [List.length_take, List.length_drop]; omega
      rw [hl] at a2
      have := listLen_rest b o r p cap _ (bs.length - (p + 1) * 1024) (bs.length - (p + 1) * 1024) w (by omega) (by omega) h1 a1 a2
      rw [show (p + 1) * 1024 + (bs.length - (p + 1) * 1024) = bs.length from by omega] at this
      exact this

theorem olAt_any (B b o i : Nat) (bs : List Int) (w : World) (h : OL w B b o bs) (hn : bs.length ≤ 1048576) (hi : i < bs.length) (hb : ∀ j (hj : j < bs.length), 0 ≤ bs[j] ∧ bs[j] ≤ 1048576) :
    Calls Tryd.prog 47 #[.pointer (some ⟨b, o, none⟩), .int .i64 (i : Int)] w fun e w' => e = .returned (.int .i64 bs[i]) ∧ ∃ q, w' = w.drewN q := by
  obtain ⟨_, ⟨rfl, h1, h2, h3⟩ | ⟨hne, ⟨hd, g, k0, k1, k2, k3, k4, k5⟩, rp, q, cap, h1, h2, h3, h4⟩⟩ := h
  · simp at hi
  · have hl0 : 0 < bs.length := by omega
    by_cases hlt : i < 1024
    · have hl : i < (bs.take 1024).length := by rw [List.length_take]; omega
      have e0 : hd = bs[0] := by
        have : (bs.take 1024).head? = bs.head? := head_take bs 1024 (by omega)
        rw [this, List.head?_eq_getElem?, List.getElem?_eq_getElem hl0] at k4
        exact (Option.some.inj k4).symm
      have ex : (bs.take 1024)[i] = bs[i] := List.getElem_take
      have b0 := hb 0 hl0
      have bi := hb i hi
      have hx := k5 i hl
      rw [ex] at hx
      refine (listAt_first b o g (bs.take 1024).length i hd (bs[i] - hd) w (by rw [List.length_take]; omega) hlt hl (by omega) (by omega) (by omega) (by omega) k0 k2 hx).mono ?_
      rintro e w' ⟨rfl, hq⟩
      exact ⟨congrArg (fun x : Int => Ending.returned (.int .i64 x)) (by omega), hq⟩
    · have hq : 0 < q := by omega
      obtain ⟨r, rfl, hrB, ht⟩ := h4 hq
      obtain ⟨t, htt⟩ : ∃ t, t + 1 = i / 1024 := ⟨i / 1024 - 1, by omega⟩
      have htq : t < q := by omega
      obtain ⟨hd', g', a0, a1, a2, a3, a4, a5⟩ := ht t htq
      have hlen : ((bs.drop ((t + 1) * 1024)).take 1024).length = min 1024 (bs.length - (t + 1) * 1024) := by rw [List.length_take, List.length_drop]
      have hj : i % 1024 < ((bs.drop ((t + 1) * 1024)).take 1024).length := by rw [hlen]; omega
      have hs0 : (t + 1) * 1024 < bs.length := ar1 htt hi
      have e0 : hd' = bs[(t + 1) * 1024] := by
        rw [head_take _ 1024 (by omega), List.head?_drop, List.getElem?_eq_getElem hs0] at a4
        exact (Option.some.inj a4).symm
      have hii : (t + 1) * 1024 + i % 1024 = i := ar2 htt
      have ex : ((bs.drop ((t + 1) * 1024)).take 1024)[i % 1024] = bs[i] := by
        rw [List.getElem_take, List.getElem_drop]
        have : bs[(t + 1) * 1024 + i % 1024]? = bs[i]? := by rw [hii]
        rw [List.getElem?_eq_getElem (by rw [hii]; exact hi), List.getElem?_eq_getElem hi] at this
        exact Option.some.inj this
      have b0 := hb _ hs0
      have bi := hb i hi
      have hx := a5 (i % 1024) hj
      rw [ex] at hx
      refine (listAt_rest b o r cap q g' ((bs.drop ((t + 1) * 1024)).take 1024).length t (i % 1024) i hd' (bs[i] - hd') w (by rw [hlen]; omega) hii.symm (by omega) hj htq (by omega) (by omega) (by omega) (by omega) (by omega) h1 a0 a2 hx).mono ?_
      rintro e w' ⟨rfl, hq⟩
      exact ⟨congrArg (fun x : Int => Ending.returned (.int .i64 x)) (by omega), hq⟩

set_option maxHeartbeats 1000000 in
/-- NumFields of a Message whose offsets lie at its cell 3. -/
theorem numFields_any (B b : Nat) (bs : List Int) (w : World) (h : OL w B b 3 bs) (hn : bs.length ≤ 1048576) :
    Calls Tryd.prog 31 #[.pointer (some ⟨b, 0, none⟩)] w fun e w' => e = .returned (.int .i64 ((bs.length - 1 : Nat) : Int)) ∧ ∃ q, w' = w.drewN q := by
  have hc := fun k => olLen_any B b 3 bs (w.drewN k) (h.world (below_drewN _ _ _)) hn
  by_cases h0 : bs.length = 0
  · rw [h0] at hc
    rw [h0]
    clear h h0 hn
    go_enter Tryd.func31, Tryd.ntmps31
    go_wp2_with fail
    refine (hc 0).mono ?_
    rintro e w1 ⟨rfl, q, rfl⟩
    go_wp2
    go_ret
    exact ⟨rfl, _, rfl⟩
  · obtain ⟨m, hm⟩ : ∃ m, bs.length = m + 1 := ⟨bs.length - 1, by omega⟩
    rw [hm] at hc
    rw [hm, show m + 1 - 1 = m from by omega]
    have hm2 : m ≤ 1048576 := by omega
    have hz : ((m : Int) + 1 == 0) = false := beq_eq_false_iff_ne.2 (by omega)
    clear h h0 hn hm
    go_enter Tryd.func31, Tryd.ntmps31
    go_wp2_with fail
    refine (hc 0).mono ?_
    rintro e w1 ⟨rfl, q, rfl⟩
    go_wp2_with fail
    refine (hc _).mono ?_
    rintro e w2 ⟨rfl, q2, rfl⟩
    go_wp2
    go_ret
    exact ⟨rfl, _, rfl⟩
end Go.Proofs.Qxb6602839aDoor
