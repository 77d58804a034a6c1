/-
  Visit with the closure that logs (LawS0751AOrder).
-/
import Derived.Test.YbulkonkBag
namespace Go.Proofs.Ybulkonk
open Go.RowKit Go.MuLone

/-- The log: its variable at block lg, k values in a row of its own from lo on; nothing else below lo has turned since w1. -/
structure Lg (lg lo : Nat) (w1 : World) (k : Nat) (ys : List Value) (w : World) : Prop where
  os : w.os = w1.os
  tape : w.tape = w1.tape
  output : w.output = w1.output
  size : lo ≤ w.heap.size
  var : ∃ v, Blk w lg #[v] 25 ∧ w.ownsRow lo 28 1 v k ys
  block : ∀ j, j < lo → j ≠ lg → w.heap[j]? = w1.heap[j]?

theorem own_ne {w : World} {lo lg : Nat} {e t : TypeId} {v : Value} {n : Nat} {xs : List Value} {c : Array Value} (h : w.ownsRow lo e 1 v n xs) (hb : Blk w lg c t) (ht : t ≠ e) : v.ownBlock ≠ some lg := by
  rcases h.2 with ⟨rfl, _⟩ | ⟨g, cap, cur, rfl, _, hg, _⟩
  · simp [Value.ownBlock]
  · simp [Value.ownBlock]
    intro e1
    subst e1
    unfold Blk at hb
    rw [hb] at hg
    simp at hg
    exact ht hg.2

theorem lg_step {lg lo : Nat} {w1 w w' : World} {k : Nat} {ys : List Value} (h : Lg lg lo w1 k ys w) {v v' : Value} (hv : Blk w lg #[v] 25) (hown : w.ownsRow lo 28 1 v k ys) {o : Obj} {x : Value} (hA : App lo 28 (w.alloc o) w' v v' k ys x) (hlg : lg < lo) :
    Lg lg lo w1 (k + 1) (ys ++ [x]) (w'.setCell ⟨lg, 0, none⟩ v') := by
  have hne := own_ne hown hv (by decide)
  have hsz := hA.grown.size
  have hs := h.size
  simp at hsz
  have hv' : Blk w' lg #[v] 25 := hA.blk (hv.alloc o) hne
  refine ⟨hA.grown.os.trans h.os, hA.grown.tape.trans h.tape, hA.grown.output.trans h.output, by simp; omega, ⟨v', hv'.setSame 0 v', ?_⟩, fun j hj hjl => ?_⟩
  · obtain ⟨g, cap, rfl, hw⟩ := hA.where_
    have hown' := hA.own
    obtain ⟨cur, hc, hg, _⟩ := own_blk hown'
    refine ⟨hown'.1, Or.inr ?_⟩
    rcases hown'.2 with ⟨h0, _⟩ | ⟨g', cap', cur', he, hg', hh, r⟩
    · simp at h0
    · simp at he
      obtain ⟨rfl, rfl⟩ := he
      exact ⟨g, cap, cur', rfl, hg', by rw [Below.heap_setCell _ _ _ _ (by simp; omega)]; exact hh, r⟩
  · have h1 : v.ownBlock ≠ some j := by
      intro e
      have := hown.lt j e
      omega
    rw [Below.heap_setCell _ _ _ _ hjl, hA.grown.block j (by simp; omega) (Ne.symm h1), Below.heap_alloc _ _ _ (by omega)]
    exact h.block j hj hjl

set_option maxHeartbeats 400000 in
theorem clo9 {lg lo : Nat} {w1 w : World} {k : Nat} {ys : List Value} (h : Lg lg lo w1 k ys w) (hlg : lg < lo) (hk : k ≤ 4096) (q : Int) :
    Calls Yba.prog 9 #[.iface 42 (.int .i8 q), .pointer (some ⟨lg, 0, none⟩)] w fun e w' => e = .returned (.tuple #[]) ∧ Lg lg lo w1 (k + 1) (ys ++ [.iface 42 (.int .i8 q)]) w' := by
  obtain ⟨v, hv, hown⟩ := h.var
  have hc := hv.cell 0
  have hs := h.size
  simp at hc
  go_enter Yba.func9, Yba.ntmps9
  go_wp2_with (at_builtin; refine wpList_append1 _ rfl _ _ 25 rfl Yba.underlying25 info28 rfl rfl (hown.alloc _) ?c1 (ad := ⟨w.heap.size, 0, none⟩) (c := 1) rfl (y := .iface 42 (.int .i8 q)) ?c2 rfl ?c3 ?c4 ?_)
  case c1 => simp; omega
  case c2 => simp [go_sem]
  case c3 => unfold maxLen; omega
  case c4 => omega
  intro g cap w2 hA
  have hstep := lg_step h hv hown hA hlg
  have hne := own_ne hown hv (by decide)
  have hv2 : Blk w2 lg #[v] 25 := hA.blk (hv.alloc _) hne
  have c0 := hv2.cell 0
  have f0 := hv2.frozen 0
  simp at c0
  clear hA hc hown hv hv2 hne
  go_wp2
  go_end0
  exact ⟨rfl, hstep⟩


theorem lg_weaken {lg : Nat} {w w1 w2 : World} {k : Nat} {ys : List Value} (hb : Below w.heap.size w w1) (h : Lg lg w1.heap.size w1 k ys w2) : Lg lg w.heap.size w k ys w2 := by
  obtain ⟨v, hv, ho⟩ := h.var
  have hs := hb.size
  refine ⟨h.os.trans hb.os, h.tape.trans hb.tape, h.output.trans hb.output, Nat.le_trans hs h.size, ⟨v, hv, ownsRow_mono ho hs⟩, fun j hj hjl => ?_⟩
  rw [h.block j (by omega) hjl]; exact hb.block j hj

set_option maxHeartbeats 400000 in
theorem visit_nil (lg : Nat) (w : World) (hlg : Blk w lg #[.slice none 0 0] 25) :
    Calls Yba.prog 8 #[.pointer none, .func (.func 9) #[] #[.pointer (some ⟨lg, 0, none⟩)]] w fun e w' => e = .returned (.tuple #[]) ∧ Lg lg w.heap.size w 0 [] w' := by
  go_enter Yba.func8, Yba.ntmps8
  go_wp2_with (go_at_call 19; refine (snap_nil _).mono ?_; rintro e w' ⟨rfl, hw'⟩; obtain rfl := hw'.symm)
  refine wp_loop_rounds 1 ?_
  rw [rounds_succ]
  go_wp2
  go_end0
  exact ⟨rfl, ⟨rfl, rfl, rfl, Nat.le_refl _, ⟨_, hlg, World.ownsRow_nil _ _ _ _⟩, fun _ _ _ => rfl⟩⟩

set_option maxHeartbeats 400000 in
theorem visit_empty (lg b g cap : Nat) (w : World) (hlg : Blk w lg #[.slice none 0 0] 25) (hb : Blk w b (bagC (.slice (some ⟨g, 0, none⟩) 0 cap)) 40) :
    Calls Yba.prog 8 #[.pointer (some ⟨b, 0, none⟩), .func (.func 9) #[] #[.pointer (some ⟨lg, 0, none⟩)]] w fun e w' => e = .returned (.tuple #[]) ∧ Lg lg w.heap.size w 0 [] w' := by
  go_enter Yba.func8, Yba.ntmps8
  go_wp2_with (go_at_call 19; refine (snap_empty b _ g cap _ rfl hb).mono ?_; rintro e w1 ⟨rfl, hbe⟩)
  refine wp_loop_rounds 1 ?_
  rw [rounds_succ]
  go_wp2
  go_end0
  exact ⟨rfl, ⟨hbe.os, hbe.tape, hbe.output, hbe.size, ⟨_, hlg.below hbe hlg.lt, World.ownsRow_nil _ _ _ _⟩, fun j hj _ => hbe.block j hj⟩⟩

set_option maxHeartbeats 1000000 in
theorem visit_full (lg b g n cap lo : Nat) (z : Nat → Int) (w : World) (hn : 0 < n) (hn2 : n ≤ 1024) (hlg : Blk w lg #[.slice none 0 0] 25) (hb : Blk w b (bagC (.slice (some ⟨g, 0, none⟩) n cap)) 40)
    (hown : w.ownsRow lo 28 1 (.slice (some ⟨g, 0, none⟩) n cap) n (vals z n)) :
    Calls Yba.prog 8 #[.pointer (some ⟨b, 0, none⟩), .func (.func 9) #[] #[.pointer (some ⟨lg, 0, none⟩)]] w fun e w' => e = .returned (.tuple #[]) ∧ Lg lg w.heap.size w n (vals z n) w' := by
  have hlt := hlg.lt
  go_enter Yba.func8, Yba.ntmps8
  go_wp2_with (go_at_call 19; refine (snap_full b g n cap lo (vals z n) _ hn (by omega) hb hown (vals_len z n) (vals_one z n)).mono ?_; rintro e w1 ⟨rfl, hrow, hbe⟩)
  go_loopw [9] (fun c wr => ∃ k : Nat, k ≤ n ∧ c = .int .i64 k ∧ Lg lg w1.heap.size w1 k (vals z k) wr) (fun c _ => n - (intOf c).toNat)
  case atStart => exact ⟨0, Nat.zero_le _, rfl, ⟨rfl, rfl, rfl, Nat.le_refl _, ⟨_, hlg.below hbe hlg.lt, World.ownsRow_nil _ _ _ _⟩, fun _ _ _ => rfl⟩⟩
  case round =>
    obtain ⟨k, hk, rfl, hL⟩ := hrel
    have hs1 := hbe.size
    have hs2 := hrow.lt
    by_cases hlt2 : k < n
    · have hc : wr.cell? ⟨w.heap.size, k, none⟩ = some (.iface 42 (.int .i8 (z k))) := by
        have e1 : wr.heap[w.heap.size]? = w1.heap[w.heap.size]? := hL.block w.heap.size hs2 (by omega)
        have e2 : Blk wr w.heap.size (vals z n).toArray 28 := by unfold Blk at *; rw [e1]; exact hrow
        rw [e2.cell, List.getElem?_toArray]
        exact vals_at z hlt2
      have HC := clo9 hL (by omega) (by omega) (z k)
      rw [show vals z k ++ [.iface 42 (.int .i8 (z k))] = vals z (k + 1) from (vals_succ z k).symm] at HC
      go_wp2_with (go_at_call 9; refine HC.mono ?_; rintro e w' ⟨rfl, hL'⟩)
      go_roundw
      case rel => exact ⟨k + 1, by omega, by go_num, hL'⟩
      case measure => simp [intOf]; omega
    · have hkn : k = n := by omega
      subst hkn
      have hfin := lg_weaken hbe hL
      go_wp2
      go_end0
      exact ⟨rfl, hfin⟩

end Go.Proofs.Ybulkonk
