/-
  The script law's small functions: names, relationships, attributes, New, Has, Len, Attributes.
-/
import Derived.Test.YbulkomiKeys
namespace Go.Proofs.Ybulkomi
open Go.RowKit

set_option maxHeartbeats 400000 in
theorem bid_any (b : Nat) (w : World) : Calls Yba.prog 15 #[.int .i64 b] w fun r w' => r = .returned (.string (bidS b)) ∧ w = w' := by
  unfold bidS
  by_cases h : b = 0
  · subst h
    go_enter Yba.func15, Yba.ntmps15
    go_wp2
    go_ret
    exact ⟨rfl, rfl⟩
  · go_enter Yba.func15, Yba.ntmps15
    go_wp2
    go_ret
    exact ⟨rfl, rfl⟩

set_option maxHeartbeats 400000 in
theorem rn_any (b : Nat) (w : World) : Calls Yba.prog 16 #[.int .i64 b] w fun r w' => r = .returned (.string (rnS b)) ∧ w = w' := by
  unfold rnS
  by_cases h : b = 0
  · subst h
    go_enter Yba.func16, Yba.ntmps16
    go_wp2
    go_ret
    exact ⟨rfl, rfl⟩
  · go_enter Yba.func16, Yba.ntmps16
    go_wp2
    go_ret
    exact ⟨rfl, rfl⟩

theorem lt16 (k : Nat) (h : k < 16) : k = 0 ∨ k = 1 ∨ k = 2 ∨ k = 3 ∨ k = 4 ∨ k = 5 ∨ k = 6 ∨ k = 7 ∨ k = 8 ∨ k = 9 ∨ k = 10 ∨ k = 11 ∨ k = 12 ∨ k = 13 ∨ k = 14 ∨ k = 15 := by omega

theorem bits1 : bits BinOp.and IntKind.i64 0 1 = 0 ∧ bits BinOp.and IntKind.i64 1 1 = 1 ∧ bits BinOp.and IntKind.i64 2 1 = 0 ∧ bits BinOp.and IntKind.i64 3 1 = 1 ∧ bits BinOp.and IntKind.i64 4 1 = 0 ∧ bits BinOp.and IntKind.i64 5 1 = 1 ∧ bits BinOp.and IntKind.i64 6 1 = 0 ∧ bits BinOp.and IntKind.i64 7 1 = 1 ∧ bits BinOp.and IntKind.i64 8 1 = 0 ∧ bits BinOp.and IntKind.i64 9 1 = 1 ∧ bits BinOp.and IntKind.i64 10 1 = 0 ∧ bits BinOp.and IntKind.i64 11 1 = 1 ∧ bits BinOp.and IntKind.i64 12 1 = 0 ∧ bits BinOp.and IntKind.i64 13 1 = 1 ∧ bits BinOp.and IntKind.i64 14 1 = 0 ∧ bits BinOp.and IntKind.i64 15 1 = 1 := by
  refine ⟨?_, ?_, ?_, ?_, ?_, ?_, ?_, ?_, ?_, ?_, ?_, ?_, ?_, ?_, ?_, ?_⟩ <;> kernel_rfl

set_option maxHeartbeats 4000000 in
theorem brel_any (x : Nat) (w : World) : Calls Yba.prog 9 #[.int .u8 x] w fun r w' => r = .returned (relV (x % 16)) ∧ w' = w.alloc (.cells (relC (x % 16)) 54) := by
  have hm : (x : Int).tmod 16 = ((x % 16 : Nat) : Int) := by rw [Int.tmod_eq_emod_of_nonneg (by omega)]; omega
  have hlt : x % 16 < 16 := Nat.mod_lt _ (by omega)
  obtain ⟨q0, q1, q2, q3, q4, q5, q6, q7, q8, q9, q10, q11, q12, q13, q14, q15⟩ := bits1
  generalize x % 16 = k at *
  rcases lt16 k hlt with rfl | rfl | rfl | rfl | rfl | rfl | rfl | rfl | rfl | rfl | rfl | rfl | rfl | rfl | rfl | rfl
  all_goals
    go_enter Yba.func9, Yba.ntmps9
    go_wp2
    refine bodyPost_ret (v := relV _) (by simp [results, Yba.results9, go_sem]; rfl) rfl ⟨rfl, ?_⟩
    rfl

end Go.Proofs.Ybulkomi
