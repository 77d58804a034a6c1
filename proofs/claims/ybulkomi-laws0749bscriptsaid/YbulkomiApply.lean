/-
  Store.apply.
-/
import Derived.Test.YbulkomiRowG
namespace Go.Proofs.Ybulkomi
open Go.RowKit

theorem mod16 (x : Nat) : x % 16 < 16 := Nat.mod_lt _ (by omega)
theorem mod4 (x : Nat) : x % 4 < 4 := Nat.mod_lt _ (by omega)

set_option maxHeartbeats 2000000 in
theorem apply_any {c : Cfg} {w : World} {m : Mdl} (h : SR c w m) {lo : Nat} {X1 X2 X3 X4 : List Nat} {v1 v2 v3 v4 : Value} (o1 : w.ownsRow lo 54 6 v1 X1.length (flatG relL X1)) (o2 : w.ownsRow lo 54 6 v2 X2.length (flatG relL X2)) (o3 : w.ownsRow lo 60 8 v3 X3.length (flatG avL X3)) (o4 : w.ownsRow lo 57 3 v4 X4.length (flatG atL X4))
    (hn : m.log.length + X1.length ≤ 100000) (hl1 : X1.length ≤ 256) (hl2 : X2.length ≤ 256) (hl3 : X3.length ≤ 256) (hl4 : X4.length ≤ 256) :
    Calls Yba.prog 11 #[.pointer (some ⟨c.sb, 0, none⟩), .agg #[v1, v2, v3, v4]] w fun r w' => r = .returned (.tuple #[]) ∧ SR c w' (mDA (mWA (mD (mW m X1) X2) X3) X4) ∧ FT c.lo w w' := by
  obtain ⟨ao1, cp1, rfl, hr1⟩ := row_at relL_len o1
  obtain ⟨ao2, cp2, rfl, hr2⟩ := row_at relL_len o2
  obtain ⟨ao3, cp3, rfl, hr3⟩ := row_at avL_len o3
  obtain ⟨ao4, cp4, rfl, hr4⟩ := row_at atL_len o4
  clear hr1 hr2 hr3 hr4
  go_enter Yba.func11, Yba.ntmps11
  go_wp2
  have hb48 : Blk (w.alloc (.cells #[.slice ao1 X1.length cp1, .slice ao2 X2.length cp2, .slice ao3 X3.length cp3, .slice ao4 X4.length cp4] 48)) w.heap.size #[.slice ao1 X1.length cp1, .slice ao2 X2.length cp2, .slice ao3 X3.length cp3, .slice ao4 X4.length cp4] 48 := Blk.new w _ 48 _ rfl
  have h1 := h.fr0 ((Fr.refl (fun _ => False) w).alloc (.cells #[.slice ao1 X1.length cp1, .slice ao2 X2.length cp2, .slice ao3 X3.length cp3, .slice ao4 X4.length cp4] 48))
  have hT1 : FT c.lo w (w.alloc (.cells #[.slice ao1 X1.length cp1, .slice ao2 X2.length cp2, .slice ao3 X3.length cp3, .slice ao4 X4.length cp4] 48)) := (Fr.refl _ w).alloc _
  generalize hW1 : w.alloc (.cells #[.slice ao1 X1.length cp1, .slice ao2 X2.length cp2, .slice ao3 X3.length cp3, .slice ao4 X4.length cp4] 48) = w1 at *
  clear hW1 h
  go_loopw [15] (fun a wr => ∃ i : Nat, i ≤ X1.length ∧ a = .int .i64 i ∧ SR c wr (mW m (X1.take i)) ∧ FT c.lo w wr ∧ Blk wr w.heap.size #[.slice ao1 X1.length cp1, .slice ao2 X2.length cp2, .slice ao3 X3.length cp3, .slice ao4 X4.length cp4] 48) (fun a _ => X1.length - (intOf a).toNat)
  case atStart => exact ⟨0, Nat.zero_le _, rfl, h1, hT1, hb48⟩
  case round =>
    clear h1 hT1 hb48
    obtain ⟨i, hi, rfl, hs, hT, hb48⟩ := hrel
    by_cases hlt : i < X1.length
    · obtain ⟨ao', cp', e1, hr⟩ := row_at relL_len (hT.own o1 (by decide) (by decide) (by decide))
      simp at e1
      obtain ⟨rfl, rfl⟩ := e1
      obtain ⟨g, rfl, hc⟩ := hr i hlt
      have z0 : wr.cell? ⟨g, i * 6, none⟩ = some (.string docS) := (hc 0 (by omega)).trans rfl
      have z1 : wr.cell? ⟨g, i * 6 + 1, none⟩ = some (.string (bidS (X1[i] % 16 % 2))) := (hc 1 (by omega)).trans rfl
      have z2 : wr.cell? ⟨g, i * 6 + 2, none⟩ = some (.string (rnS (X1[i] % 16 / 2 % 2))) := (hc 2 (by omega)).trans rfl
      have z3 : wr.cell? ⟨g, i * 6 + 3, none⟩ = some (.string userS) := (hc 3 (by omega)).trans rfl
      have z4 : wr.cell? ⟨g, i * 6 + 4, none⟩ = some (.string (bidS (X1[i] % 16 / 4 % 2))) := (hc 4 (by omega)).trans rfl
      have z5 : wr.cell? ⟨g, i * 6 + 5, none⟩ = some (.string (mS (X1[i] % 16))) := (hc 5 (by omega)).trans rfl
      have hlen := mW_len (X1.take i) m
      have htl : (X1.take i).length ≤ i := by simp; omega
      have HA := fun o => add_any (hs.fr0 ((Fr.refl (fun _ => False) wr).alloc o)) (mod16 X1[i]) (by omega)
      have hst : mAdd (mW m (X1.take i)) (X1[i] % 16) = mW m (X1.take (i + 1)) := (fold_take (fun m x => mAdd m (x % 16)) m X1 hlt).symm
      rw [hst] at HA
      have hfin := fun (o : Obj) (w' : World) (hf : FT c.lo (wr.alloc o) w') => (⟨FT.trans (FT.trans hT ((Fr.refl _ wr).alloc o)) hf, hf.blk (hb48.alloc o) (by decide) (by decide) (by decide)⟩ : FT c.lo w w' ∧ Blk w' w.heap.size _ 48)
      unfold relV relC at HA
      generalize X1[i] % 16 = k at *
      generalize bidS (k % 2) = s1 at *
      generalize rnS (k / 2 % 2) = s2 at *
      generalize bidS (k / 4 % 2) = s4 at *
      generalize mS k = s5 at *
      clear hc hr hst hs hT o1 o2 o3 o4 hb48
      go_wp2_with (go_at_call 21; refine (HA _).mono ?_; rintro r w' ⟨rfl, hs', hf'⟩)
      go_wp2
      go_roundw
      case rel => exact ⟨i + 1, by omega, by go_num, hs', hfin _ _ hf'⟩
      case measure => simp [intOf]; omega
    · have hii : i = X1.length := by omega
      subst hii
      rw [List.take_length] at hs
      have k0 : wr.cell? ⟨w.heap.size, 1, none⟩ = some (.slice ao2 X2.length cp2) := (hb48.cell 1).trans rfl
      obtain ⟨M, hM⟩ : ∃ M, M = mW m X1 := ⟨_, rfl⟩
      have hMn : M.log.length ≤ 100000 := by rw [hM]; have := mW_len X1 m; omega
      rw [← hM] at hs
      clear hn hlt
      go_wp2
      go_loopw [26] (fun a wr => ∃ i : Nat, i ≤ X2.length ∧ a = .int .i64 i ∧ SR c wr (mD M (X2.take i)) ∧ FT c.lo w wr ∧ Blk wr w.heap.size #[.slice ao1 X1.length cp1, .slice ao2 X2.length cp2, .slice ao3 X3.length cp3, .slice ao4 X4.length cp4] 48) (fun a _ => X2.length - (intOf a).toNat)
      case atStart => exact ⟨0, Nat.zero_le _, rfl, hs, hT, hb48⟩
      case round =>
        clear hs hT hb48 k0
        obtain ⟨i, hi, rfl, hs, hT, hb48⟩ := hrel
        by_cases hlt : i < X2.length
        · obtain ⟨ao', cp', e1, hr⟩ := row_at relL_len (hT.own o2 (by decide) (by decide) (by decide))
          simp at e1
          obtain ⟨rfl, rfl⟩ := e1
          obtain ⟨g, rfl, hc⟩ := hr i hlt
          have z0 : wr.cell? ⟨g, i * 6, none⟩ = some (.string docS) := (hc 0 (by omega)).trans rfl
          have z1 : wr.cell? ⟨g, i * 6 + 1, none⟩ = some (.string (bidS (X2[i] % 16 % 2))) := (hc 1 (by omega)).trans rfl
          have z2 : wr.cell? ⟨g, i * 6 + 2, none⟩ = some (.string (rnS (X2[i] % 16 / 2 % 2))) := (hc 2 (by omega)).trans rfl
          have z3 : wr.cell? ⟨g, i * 6 + 3, none⟩ = some (.string userS) := (hc 3 (by omega)).trans rfl
          have z4 : wr.cell? ⟨g, i * 6 + 4, none⟩ = some (.string (bidS (X2[i] % 16 / 4 % 2))) := (hc 4 (by omega)).trans rfl
          have z5 : wr.cell? ⟨g, i * 6 + 5, none⟩ = some (.string (mS (X2[i] % 16))) := (hc 5 (by omega)).trans rfl
          have HA := fun o => rem_any (hs.fr0 ((Fr.refl (fun _ => False) wr).alloc o)) (mod16 X2[i]) (by rw [mD_log]; exact hMn)
          have hst : mRem (mD M (X2.take i)) (X2[i] % 16) = mD M (X2.take (i + 1)) := (fold_take (fun m x => mRem m (x % 16)) M X2 hlt).symm
          rw [hst] at HA
          have hfin := fun (o : Obj) (w' : World) (hf : FT c.lo (wr.alloc o) w') => (⟨FT.trans (FT.trans hT ((Fr.refl _ wr).alloc o)) hf, hf.blk (hb48.alloc o) (by decide) (by decide) (by decide)⟩ : FT c.lo w w' ∧ Blk w' w.heap.size _ 48)
          unfold relV relC at HA
          generalize X2[i] % 16 = k at *
          generalize bidS (k % 2) = s1 at *
          generalize rnS (k / 2 % 2) = s2 at *
          generalize bidS (k / 4 % 2) = s4 at *
          generalize mS k = s5 at *
          clear hc hr hst hs hT o1 o2 o3 o4 hb48
          go_wp2_with (go_at_call 22; refine (HA _).mono ?_; rintro r w' ⟨rfl, hs', hf'⟩)
          go_wp2
          go_roundw
          case rel => exact ⟨i + 1, by omega, by go_num, hs', hfin _ _ hf'⟩
          case measure => simp [intOf]; omega
        · have hii : i = X2.length := by omega
          subst hii
          rw [List.take_length] at hs
          have k0 : wr.cell? ⟨w.heap.size, 2, none⟩ = some (.slice ao3 X3.length cp3) := (hb48.cell 2).trans rfl
          obtain ⟨M2, hM2⟩ : ∃ M2, M2 = mD M X2 := ⟨_, rfl⟩
          rw [← hM2] at hs
          clear hlt hMn
          go_wp2
          go_loopw [37] (fun a wr => ∃ i : Nat, i ≤ X3.length ∧ a = .int .i64 i ∧ SR c wr (mWA M2 (X3.take i)) ∧ FT c.lo w wr ∧ Blk wr w.heap.size #[.slice ao1 X1.length cp1, .slice ao2 X2.length cp2, .slice ao3 X3.length cp3, .slice ao4 X4.length cp4] 48) (fun a _ => X3.length - (intOf a).toNat)
          case atStart => exact ⟨0, Nat.zero_le _, rfl, hs, hT, hb48⟩
          case round =>
            clear hs hT hb48 k0
            obtain ⟨i, hi, rfl, hs, hT, hb48⟩ := hrel
            by_cases hlt : i < X3.length
            · obtain ⟨ao', cp', e1, hr⟩ := row_at avL_len (hT.own o3 (by decide) (by decide) (by decide))
              simp at e1
              obtain ⟨rfl, rfl⟩ := e1
              obtain ⟨g, rfl, hc⟩ := hr i hlt
              have z0 : wr.cell? ⟨g, i * 8, none⟩ = some (.string docS) := (hc 0 (by omega)).trans rfl
              have z1 : wr.cell? ⟨g, i * 8 + 1, none⟩ = some (.string (bidS (X3[i] % 4 % 2))) := (hc 1 (by omega)).trans rfl
              have z2 : wr.cell? ⟨g, i * 8 + 2, none⟩ = some (.string (nmS (X3[i] % 4))) := (hc 2 (by omega)).trans rfl
              have z3 : wr.cell? ⟨g, i * 8 + 3, none⟩ = some (.int .u8 0) := (hc 3 (by omega)).trans rfl
              have z4 : wr.cell? ⟨g, i * 8 + 4, none⟩ = some (.int .u64 0) := (hc 4 (by omega)).trans rfl
              have z5 : wr.cell? ⟨g, i * 8 + 5, none⟩ = some (.string ⟨#[]⟩) := (hc 5 (by omega)).trans rfl
              have z6 : wr.cell? ⟨g, i * 8 + 6, none⟩ = some (.slice none 0 0) := (hc 6 (by omega)).trans rfl
              have z7 : wr.cell? ⟨g, i * 8 + 7, none⟩ = some (.slice none 0 0) := (hc 7 (by omega)).trans rfl
              have hst : mSet (mWA M2 (X3.take i)) (X3[i] % 4) = mWA M2 (X3.take (i + 1)) := (fold_take (fun m x => mSet m (x % 4)) M2 X3 hlt).symm
              have hk := mod4 X3[i]
              generalize X3[i] % 4 = k at *
              obtain ⟨L, V, SE, SS, LA, VA, hx, hm⟩ := hs
              have a4 : ∀ o, (wr.alloc o).cell? ⟨c.sb, 4, none⟩ = some (.map (some c.m4)) := fun o => ((hx.blk.alloc o).cell 4).trans rfl
              have hput : ∀ o, ∃ w4, (Instr.mapUpdate 67 (.map (some c.m4)) (atV k) (.agg #[.int .u8 0, .int .u64 0, .string ⟨#[]⟩, .slice none 0 0, .slice none 0 0])).run Yba.prog ((wr.alloc o).drew) = .ok () w4 ∧ SR c w4 (mWA M2 (X3.take (i + 1))) ∧ FT c.lo w w4 ∧ Blk w4 w.heap.size #[.slice ao1 X1.length cp1, .slice ao2 X2.length cp2, .slice (some ⟨g, 0, none⟩) X3.length cp3, .slice ao4 X4.length cp4] 48 := fun o => by
                have hx1 := hx.fr0 (((Fr.refl (fun _ => False) wr).alloc o).drew)
                obtain ⟨w4, hrun, hm4, hf4⟩ := Mf.put kok57 Yba.underlying67 hx1.attr hk (.agg #[.int .u8 0, .int .u64 0, .string ⟨#[]⟩, .slice none 0 0, .slice none 0 0])
                obtain ⟨q1, q2⟩ := sr_set hx1 hm hk hm4 hf4
                rw [hst] at q1
                exact ⟨w4, hrun, q1, FT.trans (FT.trans hT (((Fr.refl _ wr).alloc o).drew)) q2, q2.blk ((hb48.alloc o).drew) (by decide) (by decide) (by decide)⟩
              obtain ⟨w4, hrun, hs4, hT4, hb4⟩ := hput (.cells #[.string docS, .string (bidS (k % 2)), .string (nmS k), .int .u8 0, .int .u64 0, .string ⟨#[]⟩, .slice none 0 0, .slice none 0 0] 60)
              unfold atV atC at hrun
              generalize bidS (k % 2) = s1 at *
              generalize nmS k = s2 at *
              clear hc hr hst hx hm hT o1 o2 o3 o4 hb48 hput
              go_wp2_with fail
              go_region
              all_goals go_wp2
              all_goals go_roundw
              all_goals first | exact ⟨i + 1, by omega, by go_num, hs4, hT4, hb4⟩ | (simp [intOf]; omega)
            · have hii : i = X3.length := by omega
              subst hii
              rw [List.take_length] at hs
              have k0 : wr.cell? ⟨w.heap.size, 3, none⟩ = some (.slice ao4 X4.length cp4) := (hb48.cell 3).trans rfl
              obtain ⟨M3, hM3⟩ : ∃ M3, M3 = mWA M2 X3 := ⟨_, rfl⟩
              rw [← hM3] at hs
              clear hlt
              go_wp2
              go_loopw [53] (fun a wr => ∃ i : Nat, i ≤ X4.length ∧ a = .int .i64 i ∧ SR c wr (mDA M3 (X4.take i)) ∧ FT c.lo w wr) (fun a _ => X4.length - (intOf a).toNat)
              case atStart => exact ⟨0, Nat.zero_le _, rfl, hs, hT⟩
              case round =>
                clear hs hT hb48 k0
                obtain ⟨i, hi, rfl, hs, hT⟩ := hrel
                by_cases hlt : i < X4.length
                · obtain ⟨ao', cp', e1, hr⟩ := row_at atL_len (hT.own o4 (by decide) (by decide) (by decide))
                  simp at e1
                  obtain ⟨rfl, rfl⟩ := e1
                  obtain ⟨g, rfl, hc⟩ := hr i hlt
                  have z0 : wr.cell? ⟨g, i * 3, none⟩ = some (.string docS) := (hc 0 (by omega)).trans rfl
                  have z1 : wr.cell? ⟨g, i * 3 + 1, none⟩ = some (.string (bidS (X4[i] % 4 % 2))) := (hc 1 (by omega)).trans rfl
                  have z2 : wr.cell? ⟨g, i * 3 + 2, none⟩ = some (.string (nmS (X4[i] % 4))) := (hc 2 (by omega)).trans rfl
                  have hst : mDel (mDA M3 (X4.take i)) (X4[i] % 4) = mDA M3 (X4.take (i + 1)) := (fold_take (fun m x => mDel m (x % 4)) M3 X4 hlt).symm
                  have hk := mod4 X4[i]
                  generalize X4[i] % 4 = k at *
                  obtain ⟨L, V, SE, SS, LA, VA, hx, hm⟩ := hs
                  have a4 : ∀ o, (wr.alloc o).cell? ⟨c.sb, 4, none⟩ = some (.map (some c.m4)) := fun o => ((hx.blk.alloc o).cell 4).trans rfl
                  have hm4 : ∀ o, Mf 4 atV ((wr.alloc o).drew) c.m4 LA VA := fun o => (hx.fr0 (((Fr.refl (fun _ => False) wr).alloc o).drew)).attr
                  have hfin : ∀ o w4, Mf 4 atV w4 c.m4 (LA.filter (fun x => decide (x ≠ k))) VA → Fr (fun k => k = c.m4) ((wr.alloc o).drew) w4 → SR c w4 (mDA M3 (X4.take (i + 1))) ∧ FT c.lo w w4 := fun o w4 h1 h2 => by
                    have hx1 := hx.fr0 (((Fr.refl (fun _ => False) wr).alloc o).drew)
                    obtain ⟨q1, q2⟩ := sr_del hx1 hm h1 h2
                    rw [hst] at q1
                    exact ⟨q1, FT.trans (FT.trans hT (((Fr.refl _ wr).alloc o).drew)) q2⟩
                  have hkey : atV k = .agg #[.string docS, .string (bidS (k % 2)), .string (nmS k)] := rfl
                  generalize bidS (k % 2) = s1 at *
                  generalize nmS k = s2 at *
                  clear hc hr hst hx hm hT o1 o2 o3 o4
                  go_wp2_with fail
                  go_region_law (refine step_del rfl (.tmp 60) (.tmp 61) 67 rfl kok57 Yba.underlying67 (by simp [Act.eval]) (hm4 _) hk (by rw [hkey]; simp [Act.eval]) ?_; intro w4 h4 hf4; have F := hfin _ _ h4 hf4)
                  all_goals go_wp2
                  all_goals go_roundw
                  all_goals first | exact ⟨i + 1, by omega, by go_num, F⟩ | (simp [intOf]; omega)
                · have hii : i = X4.length := by omega
                  subst hii
                  rw [List.take_length] at hs
                  go_wp2
                  go_end0
                  subst hM3 hM2 hM
                  exact ⟨rfl, hs, hT⟩

end Go.Proofs.Ybulkomi
