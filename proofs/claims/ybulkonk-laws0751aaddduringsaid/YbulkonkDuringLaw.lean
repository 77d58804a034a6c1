/-
  LawS0751AAddDuring walked whole.
-/
import Derived.Test.YbulkonkDuring
namespace Go.Proofs.Ybulkonk
open Go.RowKit Go.MuLone

set_option maxHeartbeats 400000 in
theorem during_big {a0 : Option Addr} {n cap : Nat} (w : World) (hn : ¬ n ≤ 1024) (hn2 : n ≤ maxLen) :
    Calls Yba.prog 4 #[.slice a0 n cap] w fun e w' => e = .returned (.bool true) ∧ Below w.heap.size w w' := by
  unfold maxLen at hn2
  go_enter Yba.func4, Yba.ntmps4
  go_wp2
  go_ret
  exact ⟨rfl, Below.refl _ _⟩

set_option maxHeartbeats 2000000 in
theorem during_any {a0 : Option Addr} {n cap ab ao : Nat} {z : Nat → Int} {w : World} (H : Ks w a0 n ab ao z) (hn : n ≤ 1024) :
    Calls Yba.prog 4 #[.slice a0 n cap] w fun e w' => e = .returned (.bool true) ∧ Below w.heap.size w w' := by
  go_enter Yba.func4, Yba.ntmps4
  go_wp2_with fail
  refine (build_any H hn).mono ?_
  rintro e w1 ⟨b, rfl, hbag, hown, hbl, hbe⟩
  have hb1 := hbag.lt
  have hbs := hbe.size
  go_wp2_with fail
  refine (visitA (lo := w.heap.size) hn (w := ((w1.alloc (.cells #[.pointer (some ⟨b, 0, none⟩)] 23)).alloc (.cells #[.slice none 0 0] 25)).alloc (.cells #[.int .i64 0] 3)) (lg := w1.heap.size + 1) (pb := w1.heap.size) (cb := w1.heap.size + 1 + 1) (b := b) (g0 := w.heap.size) (z := z) ?_ ?_ ?_ ?_ ?_ ?_ ?_ ?_ ?_ ?_ ?_ ?_ ?_ ?_ ?_).mono ?_
  · exact (Blk.new _ _ _ _ (by simp)).alloc _
  · exact Blk.new _ _ _ _ (by simp)
  · exact ((Blk.new _ _ _ _ (by simp)).alloc _).alloc _
  · exact ((hbag.alloc _).alloc _).alloc _
  · exact ((hown.alloc _).alloc _).alloc _
  · omega
  · omega
  · omega
  · omega
  · omega
  · omega
  · omega
  · omega
  · omega
  · omega
  rintro e w5 ⟨rfl, w4, hb4, hA⟩
  have hs4 := hb4.size
  simp at hs4
  obtain ⟨lv, ev, hlv, hbg, hl, he, _, _⟩ := hA.st
  obtain ⟨lao, lc, rfl, hsl⟩ := own_shape hl
  obtain ⟨eao, ec, rfl, hse⟩ := own_shape he
  have hbel : Below w.heap.size w w5 := by
    have h3 : Below w.heap.size w (((w1.alloc (.cells #[.pointer (some ⟨b, 0, none⟩)] 23)).alloc (.cells #[.slice none 0 0] 25)).alloc (.cells #[.int .i64 0] 3)) := ((hbe.alloc (by omega) _).alloc (by simp; omega) _).alloc (by simp; omega) _
    have h4 : Below w.heap.size w w4 := h3.trans (hb4.mono (by simp; omega))
    exact h4.trans ⟨hA.os, hA.tape, hA.output, hA.size, fun k hk => hA.block k (by simp; omega) (by simp; omega) (by simp; omega) (by simp; omega) (by simp; omega)⟩
  have hpb : Blk w5 w1.heap.size #[.pointer (some ⟨b, 0, none⟩)] 23 := ad_pb hA (((Blk.new w1 #[.pointer (some ⟨b, 0, none⟩)] 23 _ rfl).alloc (.cells #[.slice none 0 0] 25)).alloc (.cells #[.int .i64 0] 3) |>.below hb4 (by simp; omega)) (by simp; omega) (by simp) (by simp; omega) (by simp; omega) (by simp; omega)
  have c1 := hlv.cell 0
  have c2 := hbg.cell 2
  have c3 := hA.cnt.cell 0
  have c4 := hpb.cell 0
  simp at c1 c2 c3 c4
  have hlog : ∀ i, i < n → ∃ g, lao = some ⟨g, 0, none⟩ ∧ w5.cell? ⟨g, i, none⟩ = some (.iface 42 (.int .i8 (z i))) := fun i hi => by
    obtain ⟨g, rfl, _⟩ := hsl (by omega)
    exact ⟨g, rfl, own_cell hl (vals_at z hi)⟩
  have herr : ∀ i, i < n → ∃ g, eao = some ⟨g, 0, none⟩ ∧ w5.cell? ⟨g, i, none⟩ = some (.iface 42 (.int .i8 (z i))) ∧ w5.cell? ⟨g, n + i, none⟩ = some (.iface 45 (.agg #[.int .i64 i])) := fun i hi => by
    obtain ⟨g, rfl, _⟩ := hse (by omega)
    refine ⟨g, rfl, own_cell he ?_, own_cell he ?_⟩
    · rw [List.getElem?_append_left (by rw [vals_len]; exact hi)]; exact vals_at z hi
    · rw [List.getElem?_append_right (by rw [vals_len]; omega), vals_len, Nat.add_sub_cancel_left]; exact adds_at hi
  have n1 := neq28
  have n2 := neq28b
  have nn : ((n : Int) != n) = false := by simp
  clear hA hlv hbg hl he hpb hsl hse hown hbag hb4
  go_wp2
  go_loop [40] (fun c => ∃ k : Nat, k ≤ n ∧ c = .int .i64 k) (fun c => n - (intOf c).toNat)
  case atStart => exact ⟨0, Nat.zero_le _, rfl⟩
  case round =>
    obtain ⟨k, hk, rfl⟩ := hrel
    by_cases hlt : k < n
    · obtain ⟨e0, hab, hk0⟩ := H k hlt
      have hk1 : w5.cell? ⟨ab, ao + k, none⟩ = some (.int .i8 (z k)) := (hbel.cell (p := ⟨ab, ao + k, none⟩) hab).trans hk0
      obtain ⟨g, eg, hl1⟩ := hlog k hlt
      obtain ⟨g2, eg2, hr1, hr2⟩ := herr k hlt
      clear herr hlog hk0
      go_wp2
      go_round
      case rel => exact ⟨k + 1, by omega, by go_num⟩
      case measure => simp [intOf]; omega
    · go_wp2
      go_ret
      exact ⟨rfl, hbel⟩

end Go.Proofs.Ybulkonk
