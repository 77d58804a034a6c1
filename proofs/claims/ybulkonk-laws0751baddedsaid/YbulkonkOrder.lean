/-
  LawS0751AOrder walked.
-/
import Derived.Test.YbulkonkVisit
import Derived.Lib.IfaceNeq
namespace Go.Proofs.Ybulkonk
open Go.RowKit Go.MuLone

theorem info42 : ∃ i, Yba.prog.info? 42 = some i ∧ i.comparable = true := by
  have h : (Yba.prog.info? 42).map (fun i => i.comparable) = some true := by kernel_rfl
  obtain ⟨i, hi, hc⟩ := Option.map_eq_some_iff.1 h
  exact ⟨i, hi, hc⟩

theorem eqIn28 (a : Int) (d : Nat) (w : World) : (Op.equalIn (d + 2) 28 (.iface 42 (.int .i8 a)) (.iface 42 (.int .i8 a))).run Yba.prog w = .ok true w := by
  obtain ⟨i, hi, hc⟩ := info42
  simp [Op.equalIn, run_underlying Yba.underlying28, run_underlying Yba.underlying42, typeInfo, hi, hc]

/-- 'x != y' of one error. -/
theorem neq28 (a : Int) (w : World) : (binOp .neq 28 (.iface 42 (.int .i8 a)) (.iface 42 (.int .i8 a))).run Yba.prog w = .ok (.bool false) w := by
  simp only [binOp]
  simp [Op.equal, Op.maxDepth, eqIn28 a 9998 w]

theorem own_shape {w : World} {lo : Nat} {e : TypeId} {v : Value} {n : Nat} {xs : List Value} (h : w.ownsRow lo e 1 v n xs) : ∃ ao c, v = .slice ao n c ∧ (0 < n → ∃ g, ao = some ⟨g, 0, none⟩ ∧ lo ≤ g) := by
  rcases h.2 with ⟨rfl, rfl⟩ | ⟨g, cap, cur, rfl, hg, _⟩
  · exact ⟨none, 0, rfl, fun h => by omega⟩
  · exact ⟨_, cap, rfl, fun _ => ⟨g, rfl, hg⟩⟩

/-- Behind Visit all that was there ahead of the log's variable is as it was. -/
theorem lg_below {lg : Nat} {w w1 w2 : World} {k : Nat} {ys : List Value} (h : Lg lg w1.heap.size w1 k ys w2) (hb : Below w.heap.size w w1) (hlg : w.heap.size ≤ lg) : Below w.heap.size w w2 := by
  have hs := hb.size
  exact ⟨h.os.trans hb.os, h.tape.trans hb.tape, h.output.trans hb.output, Nat.le_trans hs h.size, fun j hj => (h.block j (by omega) (by omega)).trans (hb.block j hj)⟩

set_option maxHeartbeats 1000000 in
theorem order_nil {a0 : Option Addr} {n cap : Nat} (w : World) (hn : n ≤ 1024) :
    Calls Yba.prog 3 #[.slice a0 n cap, .bool true] w fun e w' => e = .returned (.bool true) ∧ Below w.heap.size w w' := by
  go_enter Yba.func3, Yba.ntmps3
  go_wp2_with fail
  refine (visit_nil w.heap.size _ (Blk.new _ _ _ _ rfl)).mono ?_
  rintro e w2 ⟨rfl, hL⟩
  obtain ⟨v, hv, ho⟩ := hL.var
  obtain ⟨ao, c, rfl, _⟩ := own_shape ho
  have hc := hv.cell 0
  simp at hc
  have hbel : Below w.heap.size w w2 := lg_below hL ((Below.refl _ _).alloc (Nat.le_refl _) _) (Nat.le_refl _)
  clear hL ho hv
  go_wp2
  go_ret
  exact ⟨rfl, hbel⟩


set_option maxHeartbeats 1000000 in
theorem order_bag {a0 : Option Addr} {n cap ab ao : Nat} {z : Nat → Int} {w : World} (H : Ks w a0 n ab ao z) (hn : n ≤ 1024) :
    Calls Yba.prog 3 #[.slice a0 n cap, .bool false] w fun e w' => e = .returned (.bool true) ∧ Below w.heap.size w w' := by
  go_enter Yba.func3, Yba.ntmps3
  go_wp2_with fail
  refine (build_any H hn).mono ?_
  rintro e w1 ⟨b, rfl, hbag, hown, hbl, hbe⟩
  have hb1 := hbag.lt
  have hbs := hbe.size
  go_wp2_with fail
  have hvis : Calls Yba.prog 8 #[.pointer (some ⟨b, 0, none⟩), .func (.func 9) #[] #[.pointer (some ⟨w1.heap.size, 0, none⟩)]] (w1.alloc (.cells #[.slice none 0 0] 25)) fun e w' => e = .returned (.tuple #[]) ∧ Lg w1.heap.size (w1.alloc (.cells #[.slice none 0 0] 25)).heap.size (w1.alloc (.cells #[.slice none 0 0] 25)) n (vals z n) w' := by
    rcases Nat.eq_zero_or_pos n with h0 | h0
    · subst h0
      exact visit_empty _ _ _ _ _ (Blk.new _ _ _ _ rfl) (hbag.alloc _)
    · exact visit_full _ _ _ _ _ w.heap.size z _ h0 hn (Blk.new _ _ _ _ rfl) (hbag.alloc _) (hown.alloc _)
  refine hvis.mono ?_
  rintro e w2 ⟨rfl, hL⟩
  obtain ⟨v, hv, ho⟩ := hL.var
  obtain ⟨lao, lc, rfl, hsh⟩ := own_shape ho
  have hc := hv.cell 0
  simp at hc
  have hbel : Below w.heap.size w w2 := lg_below hL (hbe.alloc hbs _) (by omega)
  have hbag2 : Blk w2 b (bagC (.slice (some ⟨w.heap.size, 0, none⟩) n n)) 40 := by
    have := hL.block b (by simp; omega) (by omega)
    have h2 := hbag.alloc (.cells #[.slice none 0 0] 25)
    unfold Blk at *; rw [this]; exact h2
  have hc2 := hbag2.cell 2
  simp [bagC] at hc2
  have hrow : ∀ i, i < n → w2.cell? ⟨w.heap.size, i, none⟩ = some (.iface 42 (.int .i8 (z i))) := fun i hi => by
    obtain ⟨cur, hcur, _⟩ := own_blk (hown.alloc (.cells #[.slice none 0 0] 25))
    have h1 : w2.heap[w.heap.size]? = (w1.alloc (.cells #[.slice none 0 0] 25)).heap[w.heap.size]? := hL.block w.heap.size (by simp; omega) (by omega)
    have h2 := own_cell (hown.alloc (.cells #[.slice none 0 0] 25)) (vals_at z hi)
    exact (World.cell?_of_block (w := w1.alloc (.cells #[.slice none 0 0] 25)) (a := ⟨w.heap.size, i, none⟩) h1).trans h2
  have hlog : ∀ i, i < n → ∃ g, lao = some ⟨g, 0, none⟩ ∧ w2.cell? ⟨g, i, none⟩ = some (.iface 42 (.int .i8 (z i))) := fun i hi => by
    obtain ⟨g, rfl, _⟩ := hsh (by omega)
    exact ⟨g, rfl, own_cell ho (vals_at z hi)⟩
  have hne := neq28
  clear hL ho hv hvis hown hbag hsh
  go_wp2
  go_loop [40] (fun c => ∃ k : Nat, k ≤ n ∧ c = .int .i64 k) (fun c => n - (intOf c).toNat)
  case atStart => exact ⟨0, Nat.zero_le _, rfl⟩
  case round =>
    obtain ⟨k, hk, rfl⟩ := hrel
    by_cases hlt : k < n
    · obtain ⟨e0, hab, hk0⟩ := H k hlt
      have hk1 : w2.cell? ⟨ab, ao + k, none⟩ = some (.int .i8 (z k)) := (hbel.cell (p := ⟨ab, ao + k, none⟩) hab).trans hk0
      have hr1 := hrow k hlt
      obtain ⟨g, eg, hl1⟩ := hlog k hlt
      clear hrow hlog hk0
      go_wp2
      go_round
      case rel => exact ⟨k + 1, by omega, by go_num⟩
      case measure => simp [intOf]; omega
    · go_wp2
      go_ret
      exact ⟨rfl, hbel⟩

set_option maxHeartbeats 400000 in
theorem order_big {a0 : Option Addr} {n cap : Nat} (w : World) (q : Bool) (hn : ¬ n ≤ 1024) (hn2 : n ≤ maxLen) :
    Calls Yba.prog 3 #[.slice a0 n cap, .bool q] w fun e w' => e = .returned (.bool true) ∧ Below w.heap.size w w' := by
  unfold maxLen at hn2
  go_enter Yba.func3, Yba.ntmps3
  go_wp2
  go_ret
  exact ⟨rfl, Below.refl _ _⟩

end Go.Proofs.Ybulkonk
