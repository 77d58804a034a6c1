/-
  slices.DeleteFunc over the slots (of entities).
-/
import Derived.Test.YbulkomiClear
namespace Go.Proofs.Ybulkomi
open Go.RowKit


set_option maxHeartbeats 2000000 in
theorem delf {w : World} {g cap hb lo : Nat} {S : List Slot} (h : Sz w g cap S) (hh : Blk w hb #[.string ⟨#[]⟩, .string ⟨#[]⟩] 50) (hlen : S.length ≤ 100000) (hlo : lo ≤ g) (hc : S.length ≤ cap) (hm : cap ≤ maxLen) (hho : 0 < holes S) :
    Calls Yba.prog 33 #[.slice (some ⟨g, 0, none⟩) S.length cap, .func (.func 34) #[] #[.pointer (some ⟨hb, 0, none⟩)]] w fun r w' => r = .returned (.slice (some ⟨g, 0, none⟩) (live S).length cap) ∧ w'.ownsRow lo 76 3 (.slice (some ⟨g, 0, none⟩) (live S).length cap) (live S).length (flat (live S)) ∧ Fr (fun k => k = g) w w' := by
  obtain ⟨i0, hi0, h0, hbef, hlv⟩ := first_hole hho
  have hgb : g ≠ hb := by
    obtain ⟨cur, hb', _⟩ := h
    exact blk_ne hb' hh (by decide)
  have hm1 : ((i0 : Int) == -1) = false := by simp
  go_enter Yba.func33, Yba.ntmps33
  go_wp2_with (go_at_call 41; refine (idxf h.sl hh hlen hi0 h0 hbef).mono ?_; rintro r w1 ⟨rfl, hf1⟩)
  go_wp2
  go_loopw [5, 6] (fun a b wr => ∃ (i j : Nat) (T : List Slot), T.length = S.length ∧ i < j ∧ j ≤ S.length ∧ (live (S.take j)).length = i ∧ T.take i = live (S.take j) ∧ T.drop j = S.drop j ∧ a = .int .i64 i ∧ b = .int .i64 j ∧ Sz wr g cap T ∧ Fr (fun k => k = g) w wr) (fun _ b _ => S.length - (intOf b).toNat)
  case atStart =>
    have hl := live_succ S hi0
    rw [hlv] at hl
    have hn : S[i0].2.isSome = false := by
      cases hx : S[i0].2 with
      | none => rfl
      | some k => rw [hx] at h0; simp at h0
    simp only [hn, Bool.false_eq_true, if_false, List.append_nil] at hl
    refine ⟨i0, i0 + 1, S, rfl, by omega, by omega, ?_, ?_, rfl, rfl, by go_num, h.fr hf1 (fun s => s), hf1.mono (fun _ s => s.elim)⟩
    · rw [hl]; simp; omega
    · rw [hl]
  case round =>
    obtain ⟨i, j, T, hTl, hij, hjn, hi, hTt, hTd, rfl, rfl, hS, hf⟩ := hrel
    by_cases hlt : j < S.length
    · have hTj : T[j]? = S[j]? := by
        have := congrArg (fun l => l[0]?) hTd
        simpa using this
      have hTj' : T[j]'(by omega) = S[j] := by
        rw [List.getElem?_eq_getElem (by omega), List.getElem?_eq_getElem hlt] at hTj
        simpa using hTj
      obtain ⟨x, y, hsl, c0, c1, c2⟩ := hS.sl.at (show j < T.length by omega)
      rw [hTj'] at hsl c0
      have HC : ∀ o, _ := fun o => clo34 S[j].1 S[j].2 ((hf.blk hh (fun s => hgb s.symm)).alloc o) (sub_of_sl hsl)
      have hls := live_succ S hlt
      have hset : slC S[j] = [.int .u64 S[j].1, .string x, .string y] := hsl
      have hgl : g < wr.heap.size := by
        obtain ⟨cur, hb', _⟩ := hS
        exact hb'.lt
      by_cases hsm : S[j].2.isSome = true
      · have hnn : S[j].2.isNone = false := by
          cases hx : S[j].2 with
          | none => rw [hx] at hsm; simp at hsm
          | some k => rfl
        obtain ⟨cur, hbw, hcs, _⟩ := id hS
        have z0 := fun o o' => (((hbw.alloc o).alloc o').cell (i * 3)).trans (Array.getElem?_eq_getElem (show i * 3 < cur.size by omega))
        have z1 := fun v o o' => ((((hbw.setSame (i * 3) v).alloc o).alloc o').cell (i * 3 + 1)).trans (Array.getElem?_eq_getElem (by simp; omega))
        have z2 := fun v v' o o' => (((((hbw.setSame (i * 3) v).setSame (i * 3 + 1) v').alloc o).alloc o').cell (i * 3 + 2)).trans (Array.getElem?_eq_getElem (by simp; omega))
        have f0 := fun o o' => (((hbw.alloc o).alloc o').frozen (i * 3))
        have f1 := fun v o o' => ((((hbw.setSame (i * 3) v).alloc o).alloc o').frozen (i * 3 + 1))
        have f2 := fun v v' o o' => (((((hbw.setSame (i * 3) v).setSame (i * 3 + 1) v').alloc o).alloc o').frozen (i * 3 + 2))
        have hS3 := fun o o' => (hS.set3 hset (show i < T.length by omega)).fr (((Fr.refl (fun _ => False) _).alloc o).alloc o') (fun s => s)
        have hf3 := fun o o' a b c => ((((hf.setCell (p := ⟨g, i * 3, none⟩) (Or.inr rfl) a).setCell (p := ⟨g, i * 3 + 1, none⟩) (Or.inr rfl) b).setCell (p := ⟨g, i * 3 + 2, none⟩) (Or.inr rfl) c).alloc o).alloc o'
        clear hbw
        rw [hsm] at hls
        simp only [if_true] at hls
        generalize hs : S[j] = s at *
        rw [hnn] at HC
        obtain ⟨pl, sb⟩ := s
        simp only at *
        go_wp2_with (go_at_call 34; refine (HC _).mono ?_; rintro r w' ⟨rfl, rfl⟩)
        go_wp2
        go_roundw
        case rel =>
          refine ⟨i + 1, j + 1, T.set i (pl, sb), by simpa using hTl, by omega, by omega, by rw [hls, List.length_append, hi]; rfl, ?_, ?_, by go_num, by go_num, hS3 _ _, hf3 _ _ _ _ _⟩
          · rw [hls, ← hTt, List.take_set, List.take_succ_eq_append_getElem (by omega), List.set_append_right _ _ (by simp; omega)]
            simp [show i - min i T.length = 0 by omega]
          · rw [List.drop_set_of_lt (by omega), ← List.drop_drop, hTd, List.drop_drop]
        case measure => simp [intOf]; omega
      · have hsm' : S[j].2.isSome = false := by simpa using hsm
        have hnn : S[j].2.isNone = true := by
          cases hx : S[j].2 with
          | none => rfl
          | some k => rw [hx] at hsm'; simp at hsm'
        rw [hsm'] at hls
        simp only [Bool.false_eq_true, if_false, List.append_nil] at hls
        have hS3 := fun o o' => ((hS.fr (((Fr.refl (fun _ => False) wr).alloc o).alloc o') (fun s => s)))
        have hf3 := fun o o' => ((hf.alloc o).alloc o')
        generalize hs : S[j] = s at *
        rw [hnn] at HC
        obtain ⟨pl, sb⟩ := s
        simp only at *
        go_wp2_with (go_at_call 34; refine (HC _).mono ?_; rintro r w' ⟨rfl, rfl⟩)
        go_wp2
        go_roundw
        case rel =>
          refine ⟨i, j + 1, T, hTl, by omega, by omega, by rw [hls, hi], by rw [hls, hTt], ?_, rfl, by go_num, hS3 _ _, hf3 _ _⟩
          rw [← List.drop_drop, hTd, List.drop_drop]
        case measure => simp [intOf]; omega
    · have hjj : j = S.length := by omega
      subst hjj
      rw [List.take_length] at hi hTt
      obtain ⟨cur, hbl, hcs, hct⟩ := hS
      rw [hTl] at hct
      have hz1 : ∀ u ∈ (Value.agg #[.int .u64 0, .string ⟨#[]⟩, .string ⟨#[]⟩]).cells, u.oneCell' = true := by
        intro u hu
        simp [Value.cells] at hu
        rcases hu with rfl | rfl <;> rfl
      go_wp2_with (refine wpList_clear_row _ rfl _ 73 rfl Yba.underlying73 info76 rfl (by omega) hz1 (g := g) (off := i * 3) (k := S.length - i) (c := cap - i) ?e1 (by omega) hbl ?e2 ?_)
      case e1 => rfl
      case e2 => rw [hcs, ← Nat.add_mul]; exact Nat.mul_le_mul_right 3 (by omega)
      intro cur' hs' ht'
      have hil : i ≤ T.length := by omega
      have hfin : ((wr.setRow g cur').ownsRow lo 76 3 (.slice (some ⟨g, 0, none⟩) (live S).length cap) (live S).length (flat (live S))) := by
        refine Sz.own ⟨cur', setRow_blk hbl, by omega, ?_⟩ hlo rfl (by omega) hm
        rw [hi, ht', ← hTt, ← flat_take T i hil, ← hct, List.take_take, Nat.min_eq_left (Nat.mul_le_mul_right 3 (by omega))]
      have hfr := hf.setRow (g := g) (Or.inr rfl) cur'
      clear hbl hcs hct hs' ht' hTt hTd hf
      rw [hi] at hfin
      go_wp2
      go_ret
      exact ⟨by rw [hi]; rfl, by rw [hi]; exact hfin, hfr⟩

end Go.Proofs.Ybulkomi
