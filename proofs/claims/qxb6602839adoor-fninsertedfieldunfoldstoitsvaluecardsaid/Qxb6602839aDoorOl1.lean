/-
  Seat b6602839aD: the law FnInsertedFieldUnfoldsToItsValue: offsetChunk and offsetList, read.
-/
import Derived.Test.Qxb6602839aDoorIns2
namespace Go.Proofs.Qxb6602839aDoor
open Go.Shelf Go.RowKit

set_option maxHeartbeats 1000000 in
theorem chunkLen_any (b o : Nat) (pf : Option Addr) (n c : Nat) (w : World) (hn : n ≤ 1048576) (c1 : w.cell? ⟨b, o + 1, none⟩ = some (.slice none 0 0)) (c2 : w.cell? ⟨b, o + 2, none⟩ = some (.slice pf n c)) :
    Calls Tryd.prog 66 #[.pointer (some ⟨b, o, none⟩)] w fun e w' => e = .returned (.int .i64 (n : Int)) ∧ ∃ q, w' = w.drewN q := by
  go_enter Tryd.func66, Tryd.ntmps66
  go_wp2
  go_quiet (fail)
  go_wp2
  go_ret
  exact ⟨rfl, _, rfl⟩

theorem neq_nil (w : World) (a : Addr) (n c : Nat) : (binOp .neq 26 (.slice (some a) n c) (.slice none 0 0)).run Tryd.prog w = .ok (.bool true) w := by
  simp only [binOp]
  simp [Op.equal, Op.maxDepth, Lib.run_equalIn_slice_nil w 9999 26 3 (some a) n c 0 0 Tryd.underlying26]
set_option maxHeartbeats 1000000 in
theorem chunkAt_any (b o g n j : Nat) (hd x : Int) (w : World) (_hn : n ≤ 1048576) (hj : j < n) (h1 : -2097152 ≤ hd) (h2 : hd ≤ 2097152) (h3 : -2097152 ≤ x) (h4 : x ≤ 2097152)
    (c0 : w.cell? ⟨b, o, none⟩ = some (.int .i64 hd)) (c2 : w.cell? ⟨b, o + 2, none⟩ = some (.slice (some ⟨g, 0, none⟩) n n)) (cx : w.cell? ⟨g, j, none⟩ = some (.int .i64 x)) :
    Calls Tryd.prog 67 #[.pointer (some ⟨b, o, none⟩), .int .i64 (j : Int)] w fun e w' => e = .returned (.int .i64 (hd + x)) ∧ ∃ q, w' = w.drewN q := by
  have q26 : ∀ (w : World) (a : Addr) (n c : Nat), (binOp .neq 26 (.slice (some a) n c) (.slice none 0 0)).run Tryd.prog w = .ok (.bool true) w := fun w a n c => neq_nil w a n c
  go_enter Tryd.func67, Tryd.ntmps67
  go_wp2
  go_quiet (fail)
  go_wp2
  go_ret
  exact ⟨rfl, _, rfl⟩

set_option maxHeartbeats 1000000 in
theorem listLen_first (b o : Nat) (pf pr : Option Addr) (n c cr : Nat) (w : World) (hn : n ≤ 1048576) (c1 : w.cell? ⟨b, o + 1, none⟩ = some (.slice none 0 0)) (c2 : w.cell? ⟨b, o + 2, none⟩ = some (.slice pf n c)) (c3 : w.cell? ⟨b, o + 3, none⟩ = some (.slice pr 0 cr)) :
    Calls Tryd.prog 46 #[.pointer (some ⟨b, o, none⟩)] w fun e w' => e = .returned (.int .i64 (n : Int)) ∧ ∃ q, w' = w.drewN q := by
  have hc := chunkLen_any b o pf n c w hn c1 c2
  go_enter Tryd.func46, Tryd.ntmps46
  go_wp2_with fail
  refine hc.mono ?_
  rintro e w1 ⟨rfl, q, rfl⟩
  clear hc
  go_wp2
  go_ret
  exact ⟨rfl, _, rfl⟩

set_option maxHeartbeats 1000000 in
theorem listLen_rest (b o r q cr : Nat) (pf : Option Addr) (n c : Nat) (w : World) (hn : n ≤ 1048576) (hq : q ≤ 1048576) (c3 : w.cell? ⟨b, o + 3, none⟩ = some (.slice (some ⟨r, 0, none⟩) (q + 1) cr))
    (c1 : w.cell? ⟨r, q * 3 + 1, none⟩ = some (.slice none 0 0)) (c2 : w.cell? ⟨r, q * 3 + 2, none⟩ = some (.slice pf n c)) :
    Calls Tryd.prog 46 #[.pointer (some ⟨b, o, none⟩)] w fun e w' => e = .returned (.int .i64 (((q + 1) * 1024 + n : Nat) : Int)) ∧ ∃ q, w' = w.drewN q := by
  have hc := fun k => chunkLen_any r (q * 3) pf n c (w.drewN k) hn c1 c2
  have h0 : ((q : Int) + 1 == 0) = false := beq_eq_false_iff_ne.2 (by omega)
  have e1 : IntKind.i64.wrap ((q : Int) + 1 - 1) = (q : Int) := by rw [IntKind.wrap_i64]; omega
  have e2 : IntKind.i64.wrap (((q : Int) + 1) * 1024) = ((q : Int) + 1) * 1024 := by rw [IntKind.wrap_i64]; omega
  have e3 : IntKind.i64.wrap (((q : Int) + 1) * 1024 + (n : Int)) = ((q : Int) + 1) * 1024 + (n : Int) := by rw [IntKind.wrap_i64]; omega
  go_enter Tryd.func46, Tryd.ntmps46
  go_wp2
  go_quiet ((go_at_call 66; exact Calls.quiet_of (hc _)))
  go_wp2
  go_ret
  exact ⟨congrArg (fun x : Int => Ending.returned (.int .i64 x)) (by omega), _, rfl⟩

set_option maxHeartbeats 1000000 in
theorem listAt_first (b o g n i : Nat) (hd x : Int) (w : World) (hn : n ≤ 1048576) (hi : i < 1024) (hin : i < n) (h1 : -2097152 ≤ hd) (h2 : hd ≤ 2097152) (h3 : -2097152 ≤ x) (h4 : x ≤ 2097152)
    (c0 : w.cell? ⟨b, o, none⟩ = some (.int .i64 hd)) (c2 : w.cell? ⟨b, o + 2, none⟩ = some (.slice (some ⟨g, 0, none⟩) n n)) (cx : w.cell? ⟨g, i, none⟩ = some (.int .i64 x)) :
    Calls Tryd.prog 47 #[.pointer (some ⟨b, o, none⟩), .int .i64 (i : Int)] w fun e w' => e = .returned (.int .i64 (hd + x)) ∧ ∃ q, w' = w.drewN q := by
  have hc := chunkAt_any b o g n i hd x w hn hin h1 h2 h3 h4 c0 c2 cx
  obtain ⟨j, hj⟩ : ∃ j : Nat, j = i := ⟨_, rfl⟩
  have er : (i : Int) % 1024 = (j : Int) := by omega
  have hlt : (i : Int) < 1024 := by omega
  have h0 : (0 : Int) ≤ (i : Int) := by omega
  rw [← hj] at hc
  clear hj cx c2 c0 hi hin
  generalize (i : Int) = I at *
  go_enter Tryd.func47, Tryd.ntmps47
  go_wp2_with fail
  refine hc.mono ?_
  rintro e w1 ⟨rfl, q, rfl⟩
  clear hc
  go_wp2
  go_ret
  exact ⟨rfl, _, rfl⟩

set_option maxHeartbeats 1000000 in
theorem listAt_rest (b o r cr k g n t j i : Nat) (hd x : Int) (w : World) (hn : n ≤ 1048576) (hi : i = (t + 1) * 1024 + j) (hj : j < 1024) (hjn : j < n) (htk : t < k) (hk : k ≤ 1048576) (h1 : -2097152 ≤ hd) (h2 : hd ≤ 2097152) (h3 : -2097152 ≤ x) (h4 : x ≤ 2097152)
    (c3 : w.cell? ⟨b, o + 3, none⟩ = some (.slice (some ⟨r, 0, none⟩) k cr)) (c0 : w.cell? ⟨r, t * 3, none⟩ = some (.int .i64 hd)) (c2 : w.cell? ⟨r, t * 3 + 2, none⟩ = some (.slice (some ⟨g, 0, none⟩) n n)) (cx : w.cell? ⟨g, j, none⟩ = some (.int .i64 x)) :
    Calls Tryd.prog 47 #[.pointer (some ⟨b, o, none⟩), .int .i64 (i : Int)] w fun e w' => e = .returned (.int .i64 (hd + x)) ∧ ∃ q, w' = w.drewN q := by
  have hc := chunkAt_any r (t * 3) g n j hd x w hn hjn h1 h2 h3 h4 c0 c2 cx
  have er : (i : Int) % 1024 = (j : Int) := by omega
  have eq : (i : Int) / 1024 = (t : Int) + 1 := by omega
  have hge : (1024 : Int) ≤ (i : Int) := by omega
  have hle : (i : Int) ≤ 2000000000 := by omega
  clear hi
  go_enter Tryd.func47, Tryd.ntmps47
  go_wp2_with fail
  refine hc.mono ?_
  rintro e w1 ⟨rfl, q, rfl⟩
  clear hc
  go_wp2
  go_ret
  exact ⟨rfl, _, rfl⟩
end Go.Proofs.Qxb6602839aDoor
