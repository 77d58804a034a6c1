/-
  slices.IndexFunc, slices.DeleteFunc over the slots (of subject sets), with the closure that tells a hole.
-/
import Derived.Test.YbulkomiBSearchS
namespace Go.Proofs.Ybulkomi.Sj
open Go.RowKit Go.Proofs.Ybulkomi

set_option maxHeartbeats 1000000 in
theorem clo34 (p : Nat) (o : Option Nat) {hb : Nat} {w : World} (h : Blk w hb #[.string ⟨#[]⟩, .string ⟨#[]⟩, .string ⟨#[]⟩] 52) {x y z : ByteArray} (hxy : subC o = [.string x, .string y, .string z]) :
    Calls Yba.prog 38 #[.agg #[.int .u64 p, .string x, .string y, .string z], .pointer (some ⟨hb, 0, none⟩)] w fun r w' => r = .returned (.bool o.isNone) ∧ w' = w.alloc (.cells #[.int .u64 p, .string x, .string y, .string z] 78) := by
  have c0 : ∀ q, (w.alloc q).cell? ⟨hb, 0, none⟩ = some (.string ⟨#[]⟩) := fun q => ((h.alloc q).cell 0).trans rfl
  have c1 : ∀ q, (w.alloc q).cell? ⟨hb, 1, none⟩ = some (.string ⟨#[]⟩) := fun q => ((h.alloc q).cell 1).trans rfl
  have c2 : ∀ q, (w.alloc q).cell? ⟨hb, 2, none⟩ = some (.string ⟨#[]⟩) := fun q => ((h.alloc q).cell 2).trans rfl
  cases o with
  | none =>
    simp [subC] at hxy
    obtain ⟨rfl, rfl, rfl⟩ := hxy
    go_enter Yba.func38, Yba.ntmps38
    go_wp2
    go_ret
    exact ⟨rfl, rfl⟩
  | some k =>
    simp [subC] at hxy
    obtain ⟨rfl, rfl, rfl⟩ := hxy
    have hne : userS.toList = [117, 115, 101, 114] := by kernel_rfl
    go_enter Yba.func38, Yba.ntmps38
    go_wp2
    go_ret
    exact ⟨rfl, rfl⟩

end Go.Proofs.Ybulkomi.Sj
