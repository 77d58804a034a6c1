/-
  The script law: it returns true, whatever the input; nothing old has turned.
-/
import Derived.Test.YbulkomiLp2
namespace Go.Proofs.Ybulkomi
open Go.RowKit

set_option maxHeartbeats 400000 in
set_option maxRecDepth 100000 in
theorem script_big {w : World} {a0 : Option Addr} {n cap : Nat} (hn : ¬ n ≤ 64) : Calls Yba.prog 4 #[.slice a0 n cap] w fun e w' => e = .returned (.bool true) ∧ Below w.heap.size w w' := by
  have h64 : (64 : Int) < (n : Int) := by omega
  go_enter Yba.func4, Yba.ntmps4
  go_wp2
  go_ret
  exact ⟨rfl, Below.refl _ _⟩

set_option maxHeartbeats 2000000 in
set_option maxRecDepth 100000 in
theorem script_small {w : World} {a0 : Option Addr} {n cap : Nat} {A : Nat → Nat → Option Addr} {C : Nat → Nat → Nat} {X : Nat → Nat → List Nat} (H : StIn w a0 n A C X) (hn : n ≤ 64) : Calls Yba.prog 4 #[.slice a0 n cap] w fun e w' => e = .returned (.bool true) ∧ Below w.heap.size w w' := by
  go_enter Yba.func4, Yba.ntmps4
  go_wp2
  go_loopw [52] (fun a wr => ∃ i : Nat, i ≤ n ∧ a = .int .i64 i ∧ Fr (fun _ => False) w wr ∧ ∀ r, r < i → ∀ f, f < 4 → (X r f).length ≤ 256) (fun a _ => n - (intOf a).toNat)
  case atStart => exact ⟨0, Nat.zero_le _, rfl, Fr.refl _ _, fun r hr => by omega⟩
  case round =>
    obtain ⟨i, hi, rfl, hf, hall⟩ := hrel
    by_cases hlt : i < n
    · obtain ⟨ab, ao, rfl, hab, hcell⟩ := H.head i hlt
      have q0 : wr.cell? ⟨ab, ao + i * 4, none⟩ = some (.slice (A i 0) (X i 0).length (C i 0)) := (fr_cell hf (p := ⟨ab, ao + i * 4, none⟩) hab (fun s => s)).trans (hcell 0 (by omega))
      have q1 : wr.cell? ⟨ab, ao + i * 4 + 1, none⟩ = some (.slice (A i 1) (X i 1).length (C i 1)) := (fr_cell hf (p := ⟨ab, ao + i * 4 + 1, none⟩) hab (fun s => s)).trans (hcell 1 (by omega))
      have q2 : wr.cell? ⟨ab, ao + i * 4 + 2, none⟩ = some (.slice (A i 2) (X i 2).length (C i 2)) := (fr_cell hf (p := ⟨ab, ao + i * 4 + 2, none⟩) hab (fun s => s)).trans (hcell 2 (by omega))
      have q3 : wr.cell? ⟨ab, ao + i * 4 + 3, none⟩ = some (.slice (A i 3) (X i 3).length (C i 3)) := (fr_cell hf (p := ⟨ab, ao + i * 4 + 3, none⟩) hab (fun s => s)).trans (hcell 3 (by omega))
      have hbel := fun o => (hf.alloc o).below (Nat.le_refl _) (fun _ s => s.elim)
      by_cases hok : (X i 0).length ≤ 256 ∧ (X i 1).length ≤ 256 ∧ (X i 2).length ≤ 256 ∧ (X i 3).length ≤ 256
      · obtain ⟨h0, h1, h2, h3⟩ := hok
        have hall' : ∀ r, r < i + 1 → ∀ f, f < 4 → (X r f).length ≤ 256 := fun r hr f hf => by
          by_cases e : r = i
          · subst e
            have : f = 0 ∨ f = 1 ∨ f = 2 ∨ f = 3 := by omega
            rcases this with rfl | rfl | rfl | rfl <;> assumption
          · exact hall r (by omega) f hf
        clear hall hcell
        generalize X i 0 = X0 at *
        generalize X i 1 = X1 at *
        generalize X i 2 = X2 at *
        generalize X i 3 = X3 at *
        have g0 : ¬ (256 : Int) < (X0.length : Int) := by omega
        have g1 : ¬ (256 : Int) < (X1.length : Int) := by omega
        have g2 : ¬ (256 : Int) < (X2.length : Int) := by omega
        have g3 : ¬ (256 : Int) < (X3.length : Int) := by omega
        go_wp2
        go_roundw
        case rel => exact ⟨i + 1, by omega, by go_num, hf.alloc _, hall'⟩
        case measure => simp [intOf]; omega
      · clear hall hcell
        generalize X i 0 = X0 at *
        generalize X i 1 = X1 at *
        generalize X i 2 = X2 at *
        generalize X i 3 = X3 at *
        by_cases h0 : X0.length ≤ 256
        · by_cases h1 : X1.length ≤ 256
          · by_cases h2 : X2.length ≤ 256
            · have h3 : ¬ X3.length ≤ 256 := fun h => hok ⟨h0, h1, h2, h⟩
              have g0 : ¬ (256 : Int) < (X0.length : Int) := by omega
              have g1 : ¬ (256 : Int) < (X1.length : Int) := by omega
              have g2 : ¬ (256 : Int) < (X2.length : Int) := by omega
              have g3 : (256 : Int) < (X3.length : Int) := by omega
              go_wp2
              go_ret
              exact ⟨rfl, hbel _⟩
            · have g0 : ¬ (256 : Int) < (X0.length : Int) := by omega
              have g1 : ¬ (256 : Int) < (X1.length : Int) := by omega
              have g2 : (256 : Int) < (X2.length : Int) := by omega
              go_wp2
              go_ret
              exact ⟨rfl, hbel _⟩
          · have g0 : ¬ (256 : Int) < (X0.length : Int) := by omega
            have g1 : (256 : Int) < (X1.length : Int) := by omega
            go_wp2
            go_ret
            exact ⟨rfl, hbel _⟩
        · have g0 : (256 : Int) < (X0.length : Int) := by omega
          go_wp2
          go_ret
          exact ⟨rfl, hbel _⟩
    · have hii : i = n := by omega
      subst hii
      go_wp2_with (go_at_call 8; refine (new_any _).mono ?_; rintro r w' ⟨rfl, rfl⟩)
      have hS0 := sr_new wr w.heap.size hf.size
      have hz := hf.size
      obtain ⟨W8, hW8⟩ : ∃ W8 : World, W8 = (((((((wr.alloc (.map #[] 0)).alloc (.map #[] 0)).alloc (.map #[] 0)).alloc (.map #[] 0)).alloc (.cells (stC wr.heap.size (wr.heap.size + 1) (wr.heap.size + 2) (wr.heap.size + 3) 0) 69)).alloc (.cells #[.bool false, .bool false, .bool false, .bool false, .bool false, .bool false, .bool false, .bool false, .bool false, .bool false, .bool false, .bool false, .bool false, .bool false, .bool false, .bool false] 40)).alloc (.cells #[.int .u64 0, .int .u64 0, .int .u64 0, .int .u64 0, .int .u64 0, .int .u64 0, .int .u64 0, .int .u64 0, .int .u64 0, .int .u64 0, .int .u64 0, .int .u64 0, .int .u64 0, .int .u64 0, .int .u64 0, .int .u64 0] 41)).alloc (.cells #[.bool false, .bool false, .bool false, .bool false] 43) := ⟨_, rfl⟩
      have hs0 : SR ⟨wr.heap.size + 4, wr.heap.size, wr.heap.size + 1, wr.heap.size + 2, wr.heap.size + 3, w.heap.size⟩ W8 m0 := by
        rw [hW8]
        exact hS0.fr0 ((((Fr.refl _ _).alloc _).alloc _).alloc _)
      have ha0 : AR w (wr.heap.size + 1 + 1 + 1 + 1 + 1) (wr.heap.size + 1 + 1 + 1 + 1 + 1 + 1) (wr.heap.size + 1 + 1 + 1 + 1 + 1 + 1 + 1) m0 (.slice none 0 0) W8 := by
        rw [hW8]
        refine ⟨?_, ?_, ?_, World.ownsRow_nil _ _ _ _, (((((((((hf.mono (fun _ s => s.elim)).alloc _).alloc _).alloc _).alloc _).alloc _).alloc _).alloc _).alloc _), by omega, by omega, by omega⟩
        · rw [pres0]; exact ((Blk.new _ _ 40 _ (by simp)).alloc _).alloc _
        · rw [plac0]; exact (Blk.new _ _ 41 _ (by simp)).alloc _
        · rw [att0]; exact Blk.new _ _ 43 _ (by simp)
      rw [← hW8]
      clear hW8 hS0
      refine wp_exitOnly (lp2 H hn hall rfl hs0 ha0 _ ?_)
      intros
      rename_i hp
      go_wp2
      go_ret
      exact ⟨rfl, hp.below (Nat.le_refl _) (fun _ s => s)⟩

/-- The law. -/
theorem script {w : World} {a0 : Option Addr} {n cap : Nat} {A : Nat → Nat → Option Addr} {C : Nat → Nat → Nat} {X : Nat → Nat → List Nat} (H : StIn w a0 n A C X) : Calls Yba.prog 4 #[.slice a0 n cap] w fun e w' => e = .returned (.bool true) ∧ Below w.heap.size w w' := by
  by_cases hn : n ≤ 64
  · exact script_small H hn
  · exact script_big hn

end Go.Proofs.Ybulkomi
