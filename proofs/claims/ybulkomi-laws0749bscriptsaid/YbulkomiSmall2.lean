/-
  The script law's small functions, on: attributes, New, Has, Len, Attributes.
-/
import Derived.Test.YbulkomiSmall
namespace Go.Proofs.Ybulkomi
open Go.RowKit

theorem lt4 (k : Nat) (h : k < 4) : k = 0 ∨ k = 1 ∨ k = 2 ∨ k = 3 := by omega

set_option maxHeartbeats 4000000 in
theorem battr_any (x : Nat) (w : World) : Calls Yba.prog 10 #[.int .u8 x] w fun r w' => r = .returned (atV (x % 4)) ∧ w' = w.alloc (.cells (atC (x % 4)) 57) := by
  have hm : (x : Int).tmod 4 = ((x % 4 : Nat) : Int) := by rw [Int.tmod_eq_emod_of_nonneg (by omega)]; omega
  have hlt : x % 4 < 4 := Nat.mod_lt _ (by omega)
  obtain ⟨q0, q1, q2, q3, _⟩ := bits1
  generalize x % 4 = k at *
  rcases lt4 k hlt with rfl | rfl | rfl | rfl
  all_goals
    go_enter Yba.func10, Yba.ntmps10
    go_wp2
    refine bodyPost_ret (v := atV _) (by simp [results, Yba.results10, go_sem]; rfl) rfl ⟨rfl, ?_⟩
    rfl

/-- The store's six cells. -/
def stC (m1 m2 m3 m4 : Nat) (added : Nat) : Array Value := #[.map (some m1), .map (some m2), .map (some m3), .int .u64 added, .map (some m4), .int .u64 0]

set_option maxHeartbeats 1000000 in
theorem new_any (w : World) : Calls Yba.prog 8 #[] w fun r w' => r = .returned (.pointer (some ⟨w.heap.size + 4, 0, none⟩)) ∧ w' = ((((w.alloc (.map #[] 0)).alloc (.map #[] 0)).alloc (.map #[] 0)).alloc (.map #[] 0)).alloc (.cells (stC w.heap.size (w.heap.size + 1) (w.heap.size + 2) (w.heap.size + 3) 0) 69) := by
  have hmm := @run_makeMap Yba.prog
  go_enter Yba.func8, Yba.ntmps8
  go_wp2
  go_ret
  exact ⟨rfl, rfl⟩

theorem z26 (w : World) : (zeroValue 26).run Yba.prog w = .ok (.int .u64 0) w := by kernel_rfl

set_option maxHeartbeats 1000000 in
theorem has_any {w : World} {sb m1 m2 m3 m4 added : Nat} (hb : Blk w sb (stC m1 m2 m3 m4 added) 69) {L : List Nat} {V : Nat → Value} (hm : Mf 16 relV w m1 L V) {k : Nat} (hk : k < 16) :
    Calls Yba.prog 12 #[.pointer (some ⟨sb, 0, none⟩), relV k] w fun r w' => r = .returned (.bool (decide (k ∈ L))) ∧ Fr (fun _ => False) w w' := by
  have hlook : ∀ o n, (Instr.lookup 62 (.map (some m1)) (relV k) true).run Yba.prog ((w.alloc o).drewN n) = .ok (.tuple #[if k ∈ L then V k else .int .u64 0, .bool (decide (k ∈ L))]) ((w.alloc o).drewN n) := fun o n => by
    have := (hm.fr (((Fr.refl (fun _ => False) w).alloc o).drewN n) (fun s => s)).look kok54 Yba.underlying62 z26 hk true
    simpa using this
  have c0 : ∀ o, (w.alloc o).cell? ⟨sb, 0, none⟩ = some (.map (some m1)) := fun o => ((hb.alloc o).cell 0).trans rfl
  unfold relV relC at *
  generalize bidS (k % 2) = s1 at *
  generalize rnS (k / 2 % 2) = s2 at *
  generalize bidS (k / 4 % 2) = s4 at *
  generalize mS k = s5 at *
  generalize (if k ∈ L then V k else .int .u64 0) = vv at *
  generalize decide (k ∈ L) = bb at *
  clear hm hb
  go_enter Yba.func12, Yba.ntmps12
  go_wp2_with fail
  go_quiet (fail)
  go_wp2
  go_ret
  exact ⟨rfl, ((Fr.refl _ _).alloc _).drewN _⟩

set_option maxHeartbeats 1000000 in
theorem len_any {w : World} {sb m1 m2 m3 m4 added : Nat} (hb : Blk w sb (stC m1 m2 m3 m4 added) 69) {L : List Nat} {V : Nat → Value} (hm : Mf 16 relV w m1 L V) :
    Calls Yba.prog 13 #[.pointer (some ⟨sb, 0, none⟩)] w fun r w' => r = .returned (.int .i64 L.length) ∧ w = w' := by
  have hlen := hm.len Yba.underlying62 3
  have c0 := hb.cell 0
  simp [stC] at c0
  go_enter Yba.func13, Yba.ntmps13
  go_wp2
  go_ret
  exact ⟨rfl, rfl⟩

set_option maxHeartbeats 1000000 in
theorem attrs_any {w : World} {sb m1 m2 m3 m4 added : Nat} (hb : Blk w sb (stC m1 m2 m3 m4 added) 69) {L : List Nat} {V : Nat → Value} (hm : Mf 4 atV w m4 L V) :
    Calls Yba.prog 14 #[.pointer (some ⟨sb, 0, none⟩)] w fun r w' => r = .returned (.int .i64 L.length) ∧ w = w' := by
  have hlen := hm.len Yba.underlying67 3
  have c0 := hb.cell 4
  simp [stC] at c0
  go_enter Yba.func14, Yba.ntmps14
  go_wp2
  go_ret
  exact ⟨rfl, rfl⟩

end Go.Proofs.Ybulkomi
