/-
  zzs0750acheck: it returns true, whatever the input; nothing old has turned.
-/
import Derived.Test.YbulkomwLoop2
import Derived.Test.YbulkomwLoop4
namespace Go.Proofs.Ybulkomw
open Go.RowKit

set_option maxHeartbeats 4000000 in
set_option maxRecDepth 100000 in
theorem chk_any {a0 : Option Addr} {n cap ab ao : Nat} {A : Nat → Option Addr} {L C rb ro : Nat → Nat} {I : Nat → Nat → Inp} (sel : Int) (si : Bool) {w : World} (H : Input w a0 n ab ao A L C rb ro I) (hs0 : 0 ≤ sel) (hs1 : sel ≤ 255) :
    Calls Yba.prog 5 #[.slice a0 n cap, .int .u8 sel, .bool si] w fun e w' => e = .returned (.bool true) ∧ Below w.heap.size w w' := by
  have hn := H.nle
  go_enter Yba.func5, Yba.ntmps5
  go_wp2
  go_loop [7, 32] (fun t i => ∃ k : Nat, ∃ q : Nat, k ≤ n ∧ i = .int .i64 k ∧ t = .int .i64 q ∧ q ≤ 1024 ∧ ∀ r, r < k → L r ≤ 1024) (fun _ i => n - (intOf i).toNat)
  case atStart => exact ⟨0, 0, Nat.zero_le _, rfl, rfl, by omega, fun r hr => by omega⟩
  case round =>
    obtain ⟨k, q, hk, rfl, rfl, hq, hall⟩ := hrel
    by_cases hlt : k < n
    · obtain ⟨e0, _, hc1⟩ := H.head k hlt
      have hl := H.lle k hlt
      by_cases hb : q + L k ≤ 1024
      · go_wp2
        go_round
        case rel => exact ⟨k + 1, q + L k, by omega, by go_num, by go_num, hb, fun r hr => by
          by_cases e : r = k
          · subst e; omega
          · exact hall r (by omega)⟩
        case measure => simp [intOf]; omega
      · go_wp2
        go_ret
        exact ⟨rfl, Below.refl _ _⟩
    · have : k = n := by omega
      subst this
      have hL1 : ∀ r, r < k → L r ≤ 1024 := hall
      clear hall
      by_cases hbig : k ≤ 1024
      · have hmk := make36 k hbig
        go_wp2
        have hB0 := build_start w k L I
        clear hmk
        refine wp_exitOnly (loop2 H hbig hL1 hB0 _ ?_)
        clear hB0
        intros
        rename_i hB
        rename World => wb
        have hl5 : (sel % 5).toNat < 5 := by omega
        have hfa : wb.cell? ⟨w.heap.size + 1 + 1 + 1 + 1 + 1, (sel % 5).toNat, none⟩ = some (.pointer (fad w.heap.size (sel % 5).toNat)) := by
          have := hB.arr.cell (sel % 5).toNat
          rw [filesArr_at _ _ hl5] at this
          exact this
        obtain ⟨rdZ, hrs, hrz⟩ := zero92
        have hneq := neq62
        cases si
        · have hcall := fun sc lrc rd nx t0 t1 t2 t3 h0 h1 h2 => reader_call hB hbig hL1 (sel % 5).toNat hl5 sc lrc rd nx t0 t1 t2 t3 h0 h1 h2
          have hfb : ∀ o o', ((wb.alloc o).alloc o').cell? ⟨w.heap.size + 1 + 1 + 1 + 1 + 1, (sel % 5).toNat, none⟩ = some (.pointer (fad w.heap.size (sel % 5).toNat)) := fun o o' => by
            have := ((hB.arr.alloc o).alloc o').cell (sel % 5).toNat
            rw [filesArr_at _ _ hl5] at this
            exact this
          have h50 : ∀ v, (rdZ.setIfInBounds 50 v)[50]? = some v := fun v => by simp [hrs]
          clear hB
          go_wp2_with (go_at_call 6; refine (hcall _ _ _ _ _ _ _ _ rfl rfl (h50 _)).mono ?_; rintro e w4 ⟨rfl, hD⟩; have d0 := hD.r; have d1 := hD.p)
          clear d0 d1 hrz hrs hneq hcall hfb h50
          refine wp_exitOnly (loop4 H hs0 hs1 hbig hL1 hD _ ?_)
          intros
          rename_i hbx
          have hend := hD.below.trans (hbx.mono hD.below.size)
          clear hbx hD hfa
          go_wp2
          go_ret
          exact ⟨rfl, hend⟩
        · have hcall := fun lrc nx t1 t2 h0 h1 => standin_call hB hbig hL1 (sel % 5).toNat hl5 lrc nx t1 t2 h0 h1
          clear hB
          go_wp2_with (go_at_call 6; refine (hcall _ _ _ _ rfl rfl).mono ?_; rintro e w4 ⟨rfl, hcl, hD⟩; have d0 := hD.r; have d1 := hD.p)
          clear hcl d0 d1 hrz hrs hneq hcall
          refine wp_exitOnly (loop4 H hs0 hs1 hbig hL1 hD _ ?_)
          intros
          rename_i hbx
          have hend := hD.below.trans (hbx.mono hD.below.size)
          clear hbx hD hfa
          go_wp2
          go_ret
          exact ⟨rfl, hend⟩
      · go_wp2
        go_ret
        exact ⟨rfl, Below.refl _ _⟩

end Go.Proofs.Ybulkomw
