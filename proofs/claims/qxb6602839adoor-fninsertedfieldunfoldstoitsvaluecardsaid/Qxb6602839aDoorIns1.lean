/-
  Seat b6602839aD: the law FnInsertedFieldUnfoldsToItsValue: the small functions on her road.
-/
import Derived.Test.Qxb6602839aDoorModel
import Derived.Deep.QuietTactic
import Derived.BigQuiet
namespace Go.Proofs.Qxb6602839aDoor
open Go.Shelf Go.RowKit

set_option maxHeartbeats 1000000 in
theorem bytes11_any (s nm v : ByteArray) (pb pr pi : Option Addr) (nb cb nr cr ni ci : Nat) (w : World) (h1 : s.size ≤ 140737488355328) (h2 : nb ≤ 140737488355328) (h3 : nr ≤ 140737488355328) (h4 : ni ≤ 140737488355328) (h5 : nm.size ≤ 140737488355328) (h6 : v.size ≤ 140737488355328) :
    Calls Tryd.prog 11 #[.string s, .slice pb nb cb, .slice pr nr cr, .slice pi ni ci, .string nm, .string v] w fun e w' => (∃ b, e = .returned (.bool b)) ∧ w' = w := by
  go_enter Tryd.func11, Tryd.ntmps11
  go_wp2
  all_goals
    go_ret
    exact ⟨⟨_, rfl⟩, rfl⟩

/-- No LF, no CR at the end. -/
def oneLine (l : List UInt8) : Bool := !Uf.hasNL l && !(l.getLast? == some 13)

theorem hasNL_at : ∀ (l : List UInt8) (k : Nat), l[k]? = some 10 → Uf.hasNL l = true
  | [], k, h => by simp at h
  | c :: r, k, h => by
    by_cases hc : c = 10
    · simp [Uf.hasNL, hc]
    · simp only [Uf.hasNL, if_neg hc]
      cases k with
      | zero => simp at h; exact absurd h hc
      | succ k => exact hasNL_at r k (by simpa using h)
theorem noNL_of (s : ByteArray) (h : ∀ j, (hj : j < s.size) → s[j] ≠ 10) : Uf.hasNL s.data.toList = false := by
  have key : ∀ l : List UInt8, (∀ c ∈ l, c ≠ 10) → Uf.hasNL l = false := by
    intro l
    induction l with
    | nil => intro _; rfl
    | cons c r ih =>
      intro hc
      have h1 : c ≠ 10 := hc c (List.mem_cons_self ..)
      simp only [Uf.hasNL, if_neg h1]
      exact ih fun d hd => hc d (List.mem_cons_of_mem _ hd)
  apply key
  intro c hc
  obtain ⟨j, hj, rfl⟩ := List.mem_iff_getElem.1 hc
  exact h j (by simpa using hj)

set_option maxHeartbeats 1000000 in
theorem oneLine_any (s : ByteArray) (w : World) (hs : s.size ≤ 140737488355328) :
    Calls Tryd.prog 13 #[.string s] w fun e w' => e = .returned (.bool (oneLine s.data.toList)) ∧ w' = w := by
  go_enter Tryd.func13, Tryd.ntmps13
  go_wp2
  go_loop [3] (fun i => ∃ k : Nat, k ≤ s.size ∧ i = .int .i64 k ∧ Hid (∀ j, (hj : j < s.size) → j < k → s[j] ≠ 10)) (fun i => s.size - (intOf i).toNat)
  case atStart => exact ⟨0, Nat.zero_le _, rfl, fun j _ hj => absurd hj (Nat.not_lt_zero _)⟩
  case round =>
    obtain ⟨k, hk, rfl, hA⟩ := hrel
    by_cases hlt : k < s.size
    · cases hc : ((s[k].toNat : Int) == 10) with
      | true =>
        have HE : Hid (oneLine s.data.toList = false) := by
          show _ = _
          unfold oneLine
          rw [hasNL_at _ k (by rw [byte_at s k hlt, byte_eq _ 10 (by omega) hc]; rfl)]; rfl
        go_wp2
        go_ret
        exact ⟨by rw [HE.out]; rfl, rfl⟩
      | false =>
        have HC : Hid (s[k] ≠ 10) := byte_ne _ 10 hc
        go_wp2
        go_round
        case rel => exact ⟨k + 1, by omega, by go_num, fun j hj hjk => if e : j = k then by subst e; exact HC.out else hA.out j hj (by omega)⟩
        case measure => simp [intOf]; omega
    · have HN : Hid (Uf.hasNL s.data.toList = false) := noNL_of s fun j hj => hA.out j hj (by omega)
      clear hA
      have el : s.data.toList.length = s.size := Array.length_toList
      by_cases h0 : s.size = 0
      · have hl : Hid (s.data.toList = []) := List.eq_nil_of_length_eq_zero (by rw [el]; exact h0)
        have HE : Hid (oneLine s.data.toList = true) := by
          show _ = _
          unfold oneLine
          rw [hl.out]; rfl
        clear el hl
        go_wp2
        go_ret
        exact ⟨by rw [HE.out]; rfl, rfl⟩
      · have h0' : ((s.size : Int) == 0) = false := beq_eq_false_iff_ne.2 (by omega)
        have hlt' : s.size - 1 < s.size := by omega
        have HL : Hid (s.data.toList.getLast? = some s[s.size - 1]) := by
          show _ = _
          rw [List.getLast?_eq_getElem?, el]; exact byte_at s (s.size - 1) hlt'
        clear el h0
        cases hc : ((s[s.size - 1].toNat : Int) != 13) with
        | true =>
          have HC : Hid (s[s.size - 1] ≠ 13) := by
            refine byte_ne _ 13 ?_
            have : ((s[s.size - 1].toNat : Int) != 13) = !((s[s.size - 1].toNat : Int) == 13) := rfl
            rw [this] at hc
            simpa using hc
          have HE : Hid (oneLine s.data.toList = true) := by
            show _ = _
            unfold oneLine
            rw [HN.out, HL.out]
            have : (some s[s.size - 1] == some (13 : UInt8)) = false := by simpa using HC.out
            rw [this]; rfl
          go_wp2
          go_ret
          exact ⟨by rw [HE.out]; rfl, rfl⟩
        | false =>
          have HE : Hid (oneLine s.data.toList = false) := by
            show _ = _
            unfold oneLine
            have h1 : ((s[s.size - 1].toNat : Int) == 13) = true := by
              have : ((s[s.size - 1].toNat : Int) != 13) = !((s[s.size - 1].toNat : Int) == 13) := rfl
              rw [this] at hc
              simpa using hc
            rw [HN.out, HL.out, byte_eq _ 13 (by omega) h1]; rfl
          go_wp2
          go_ret
          exact ⟨by rw [HE.out]; rfl, rfl⟩
end Go.Proofs.Qxb6602839aDoor
