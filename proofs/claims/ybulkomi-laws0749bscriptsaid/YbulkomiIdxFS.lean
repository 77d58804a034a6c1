/-
  slices.IndexFunc over the slots (of subject sets).
-/
import Derived.Test.YbulkomiDelFS
namespace Go.Proofs.Ybulkomi.Sj
open Go.RowKit Go.Proofs.Ybulkomi

theorem sub_of_sl {s : Slot} {x y z : ByteArray} (h : slC s = [.int .u64 s.1, .string x, .string y, .string z]) : subC s.2 = [.string x, .string y, .string z] := by
  unfold slC at h
  exact (List.cons.inj h).2

set_option maxHeartbeats 2000000 in
theorem idxf {w : World} {g cap hb : Nat} {S : List Slot} (h : Sl w g S) (hh : Blk w hb #[.string ⟨#[]⟩, .string ⟨#[]⟩, .string ⟨#[]⟩] 52) (hlen : S.length ≤ 100000) {i0 : Nat} (hi0 : i0 < S.length) (h0 : S[i0].2.isNone = true) (hbef : ∀ j, j < i0 → ∀ (hj : j < S.length), S[j].2.isNone = false) :
    Calls Yba.prog 42 #[.slice (some ⟨g, 0, none⟩) S.length cap, .func (.func 38) #[] #[.pointer (some ⟨hb, 0, none⟩)]] w fun r w' => r = .returned (.int .i64 i0) ∧ Fr (fun _ => False) w w' := by
  go_enter Yba.func42, Yba.ntmps42
  go_wp2
  go_loopw [8] (fun a wr => ∃ i : Nat, i ≤ i0 ∧ a = .int .i64 i ∧ Fr (fun _ => False) w wr) (fun a _ => i0 + 1 - (intOf a).toNat)
  case atStart => exact ⟨0, by omega, rfl, Fr.refl _ _⟩
  case round =>
    obtain ⟨i, hi, rfl, hf⟩ := hrel
    obtain ⟨x, y, z, hsl, c0, c1, c2, c3⟩ := (h.fr hf).at (show i < S.length by omega)
    have HC := clo34 S[i].1 S[i].2 (hf.blk hh (fun s => s)) (sub_of_sl hsl)
    by_cases hlt : i < i0
    · rw [hbef i hlt (by omega)] at HC
      generalize S[i].1 = pl at *
      go_wp2_with (go_at_call 38; refine HC.mono ?_; rintro r w' ⟨rfl, rfl⟩)
      go_wp2
      go_roundw
      case rel => exact ⟨i + 1, by omega, by go_num, hf.alloc _⟩
      case measure => simp [intOf]; omega
    · have hii : i = i0 := by omega
      subst hii
      rw [h0] at HC
      generalize S[i].1 = pl at *
      go_wp2_with (go_at_call 38; refine HC.mono ?_; rintro r w' ⟨rfl, rfl⟩)
      go_wp2
      go_ret
      exact ⟨rfl, hf.alloc _⟩

end Go.Proofs.Ybulkomi.Sj
