/-
  LawS0751AAddDuring walked.
-/
import Derived.Test.YbulkonkClo10
namespace Go.Proofs.Ybulkonk
open Go.RowKit Go.MuLone

theorem own_below {w w' : World} {lo : Nat} {e : TypeId} {g n cap : Nat} {xs : List Value} (h : w.ownsRow lo e 1 (.slice (some ⟨g, 0, none⟩) n cap) n xs) {B : Nat} (hb : Below B w w') (hg : g < B) (lo' : Nat) (hlo : lo' ≤ g) : w'.ownsRow lo' e 1 (.slice (some ⟨g, 0, none⟩) n cap) n xs := by
  refine ⟨h.1, ?_⟩
  rcases h.2 with ⟨h0, _⟩ | ⟨g', cap', cur, hv, _, hh, r⟩
  · simp at h0
  · simp at hv
    obtain ⟨rfl, rfl⟩ := hv
    exact Or.inr ⟨g, cap, cur, rfl, hlo, by rw [hb.block g hg]; exact hh, r⟩

/-- The start of the loop. -/
theorem ad_start {w w1 : World} {lg cb b g0 n : Nat} {z : Nat → Int} (hb : Below w.heap.size w w1) (hlg : Blk w lg #[.slice none 0 0] 25) (hcb : Blk w cb #[.int .i64 0] 3) (hbg : Blk w b (bagC (.slice (some ⟨g0, 0, none⟩) n n)) 40)
    {lo : Nat} (hown : w.ownsRow lo 28 1 (.slice (some ⟨g0, 0, none⟩) n n) n (vals z n)) : Ad ⟨w1.heap.size, lg, cb, b, g0⟩ w1 z n 0 0 0 0 w1 := by
  obtain ⟨cur, hcur, _⟩ := own_blk hown
  refine ⟨rfl, rfl, rfl, Nat.le_refl _, ⟨.slice none 0 0, .slice (some ⟨g0, 0, none⟩) n n, hlg.below hb hlg.lt, hbg.below hb hbg.lt, World.ownsRow_nil _ _ _ _, ?_, fun k hk => by simp [Value.ownBlock] at hk, fun k hk => by simp [Value.ownBlock] at hk; exact Or.inl hk.symm⟩, hcb.below hb hcb.lt, fun _ _ _ _ _ _ => rfl⟩
  have := own_below hown hb hcur.lt 0 (Nat.zero_le _)
  simpa [adds] using this

set_option maxHeartbeats 1000000 in
theorem visitA {w : World} {lg pb cb b g0 n : Nat} {z : Nat → Int} (hn : n ≤ 1024) (hlg : Blk w lg #[.slice none 0 0] 25) (hcb : Blk w cb #[.int .i64 0] 3) (hpb : Blk w pb #[.pointer (some ⟨b, 0, none⟩)] 23) (hbg : Blk w b (bagC (.slice (some ⟨g0, 0, none⟩) n n)) 40)
    {lo : Nat} (hown : w.ownsRow lo 28 1 (.slice (some ⟨g0, 0, none⟩) n n) n (vals z n)) (d1 : lg ≠ cb) (d2 : lg ≠ b) (d3 : lg ≠ g0) (d4 : cb ≠ b) (d5 : cb ≠ g0) (d6 : b ≠ g0) (p1 : pb ≠ lg) (p2 : pb ≠ b) (p3 : pb ≠ cb) (p4 : pb ≠ g0) :
    Calls Yba.prog 8 #[.pointer (some ⟨b, 0, none⟩), .func (.func 10) #[] #[.pointer (some ⟨lg, 0, none⟩), .pointer (some ⟨pb, 0, none⟩), .pointer (some ⟨cb, 0, none⟩)]] w fun e w' => e = .returned (.tuple #[]) ∧
      ∃ w1, Below w.heap.size w w1 ∧ Ad ⟨w1.heap.size, lg, cb, b, g0⟩ w1 z n n n 0 n w' := by
  rcases Nat.eq_zero_or_pos n with h0 | h0
  · subst h0
    go_enter Yba.func8, Yba.ntmps8
    go_wp2_with fail
    refine (snap_empty b _ g0 0 _ rfl hbg).mono ?_
    rintro e w1 ⟨rfl, hbe⟩
    go_wp2
    refine wp_loop_rounds 1 ?_
    rw [rounds_succ]
    go_wp2
    go_end0
    exact ⟨rfl, w1, hbe, ad_start hbe hlg hcb hbg hown⟩
  · obtain ⟨cur, hcur, _⟩ := own_blk hown
    go_enter Yba.func8, Yba.ntmps8
    go_wp2_with fail
    refine (snap_full b g0 n n lo (vals z n) _ h0 (by omega) hbg hown (vals_len z n) (vals_one z n)).mono ?_
    rintro e w1 ⟨rfl, hrow, hbe⟩
    have hA0 := ad_start hbe hlg hcb hbg hown
    have hp : Pl.ok ⟨w1.heap.size, lg, cb, b, g0⟩ := by
      have := hlg.lt
      have := hcb.lt
      have := hbg.lt
      have := hcur.lt
      have := hbe.size
      exact ⟨by simp; omega, by simp; omega, by simp; omega, by simp; omega, d1, d2, d3, d4, d5, d6⟩
    have hs1 := hbe.size
    have hs2 := hrow.lt
    have l1 := hlg.lt
    have l2 := hcb.lt
    have l3 := hbg.lt
    have l4 := hcur.lt
    have hpb1 := hpb.below hbe hpb.lt
    have l5 := hpb.lt
    go_wp2
    go_loopw [9] (fun c wr => ∃ k : Nat, k ≤ n ∧ c = .int .i64 k ∧ Ad ⟨w1.heap.size, lg, cb, b, g0⟩ w1 z n k k 0 k wr) (fun c _ => n - (intOf c).toNat)
    case atStart => exact ⟨0, Nat.zero_le _, rfl, hA0⟩
    case round =>
      clear hA0
      obtain ⟨k, hk, rfl, hA⟩ := hrel
      by_cases hlt : k < n
      · have hc : wr.cell? ⟨w.heap.size, k, none⟩ = some (.iface 42 (.int .i8 (z k))) := by
          have e1 : wr.heap[w.heap.size]? = w1.heap[w.heap.size]? := hA.block w.heap.size hs2 (by simp; omega) (by simp; omega) (by simp; omega) (by simp; omega)
          have e2 : Blk wr w.heap.size (vals z n).toArray 28 := by unfold Blk at *; rw [e1]; exact hrow
          rw [e2.cell, List.getElem?_toArray]
          exact vals_at z hlt
        have HC := clo10 hp hA hn hlt hpb1 (by simp; omega) p1 p2 p3 p4
        simp only at HC
        go_wp2_with (go_at_call 10; refine HC.mono ?_; rintro e w' ⟨rfl, hA'⟩)
        go_roundw
        case rel => exact ⟨k + 1, by omega, by go_num, hA'⟩
        case measure => simp [intOf]; omega
      · have hkn : k = n := by omega
        subst hkn
        go_wp2
        go_end0
        exact ⟨rfl, w1, hbe, hA⟩

theorem info45 : ∃ i, Yba.prog.info? 45 = some i ∧ i.comparable = true := by
  have h : (Yba.prog.info? 45).map (fun i => i.comparable) = some true := by kernel_rfl
  obtain ⟨i, hi, hc⟩ := Option.map_eq_some_iff.1 h
  exact ⟨i, hi, hc⟩

theorem neq28b (a : Int) (w : World) : (binOp .neq 28 (.iface 45 (.agg #[.int .i64 a])) (.iface 45 (.agg #[.int .i64 a]))).run Yba.prog w = .ok (.bool false) w := by
  obtain ⟨i, hi, hc⟩ := info45
  have h1 : ∀ d : Nat, (Op.equalIn (d + 2) 45 (.agg #[.int .i64 a]) (.agg #[.int .i64 a])).run Yba.prog w = .ok true w := fun d => by
    rw [run_equalIn_struct w (d + 1) 45 _ _ (by kernel_rfl) (by kernel_rfl)]
    simp [go_sem, Program.fieldsOf, Yba.underlying45, Op.eqFields, part]
  have h2 : (Op.equalIn 10000 28 (.iface 45 (.agg #[.int .i64 a])) (.iface 45 (.agg #[.int .i64 a]))).run Yba.prog w = .ok true w := by
    have e : Op.equalIn 10000 28 (.iface 45 (.agg #[.int .i64 a])) (.iface 45 (.agg #[.int .i64 a])) = Op.equalIn (9999 + 1) 28 (.iface 45 (.agg #[.int .i64 a])) (.iface 45 (.agg #[.int .i64 a])) := rfl
    rw [e]
    unfold Op.equalIn
    simp [run_underlying Yba.underlying28, typeInfo, hi, hc, h1 9997]
  simp only [binOp]
  simp [Op.equal, Op.maxDepth, h2]

end Go.Proofs.Ybulkonk
