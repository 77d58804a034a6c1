/-
  slices.IndexFunc, slices.DeleteFunc over the slots (of entities), with the closure that tells a hole.
-/
import Derived.Test.YbulkomiBSearch
namespace Go.Proofs.Ybulkomi
open Go.RowKit

theorem eql50 (o : Option Nat) (w : World) : ∃ x y, subC o = [.string x, .string y] ∧ (binOp .eql 50 (.agg #[.string x, .string y]) (.agg #[.string ⟨#[]⟩, .string ⟨#[]⟩])).run Yba.prog w = .ok (.bool o.isNone) w := by
  cases o with
  | none => exact ⟨_, _, rfl, by kernel_rfl⟩
  | some k =>
    refine ⟨userS, bidS (k / 4 % 2), rfl, ?_⟩
    unfold bidS
    split <;> kernel_rfl

set_option maxHeartbeats 1000000 in
theorem clo34 (p : Nat) (o : Option Nat) {hb : Nat} {w : World} (h : Blk w hb #[.string ⟨#[]⟩, .string ⟨#[]⟩] 50) {x y : ByteArray} (hxy : subC o = [.string x, .string y]) :
    Calls Yba.prog 34 #[.agg #[.int .u64 p, .string x, .string y], .pointer (some ⟨hb, 0, none⟩)] w fun r w' => r = .returned (.bool o.isNone) ∧ w' = w.alloc (.cells #[.int .u64 p, .string x, .string y] 76) := by
  have heq : ∀ q, (binOp .eql 50 (.agg #[.string x, .string y]) (.agg #[.string ⟨#[]⟩, .string ⟨#[]⟩])).run Yba.prog (w.alloc q) = .ok (.bool o.isNone) (w.alloc q) := fun q => by
    obtain ⟨x', y', h1, h2⟩ := eql50 o (w.alloc q)
    rw [hxy] at h1
    simp at h1
    obtain ⟨rfl, rfl⟩ := h1
    exact h2
  have c0 : ∀ q, (w.alloc q).cell? ⟨hb, 0, none⟩ = some (.string ⟨#[]⟩) := fun q => ((h.alloc q).cell 0).trans rfl
  have c1 : ∀ q, (w.alloc q).cell? ⟨hb, 1, none⟩ = some (.string ⟨#[]⟩) := fun q => ((h.alloc q).cell 1).trans rfl
  cases o with
  | none =>
    simp [subC] at hxy
    obtain ⟨rfl, rfl⟩ := hxy
    clear heq
    go_enter Yba.func34, Yba.ntmps34
    go_wp2
    go_ret
    exact ⟨rfl, rfl⟩
  | some k =>
    simp [subC] at hxy
    obtain ⟨rfl, rfl⟩ := hxy
    have hne : userS.toList = [117, 115, 101, 114] := by kernel_rfl
    clear heq
    go_enter Yba.func34, Yba.ntmps34
    go_wp2
    go_ret
    exact ⟨rfl, rfl⟩

end Go.Proofs.Ybulkomi
