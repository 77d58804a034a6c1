/-
  Store.remove.
-/
import Derived.Test.YbulkomiSAdd
namespace Go.Proofs.Ybulkomi
open Go.RowKit

set_option maxHeartbeats 2000000 in
theorem rem_old {c : Cfg} {w : World} {m : Mdl} (h : SR c w m) {k : Nat} (hk : k < 16) (hp : m.pr k = false) :
    Calls Yba.prog 22 #[.pointer (some ⟨c.sb, 0, none⟩), relV k] w fun r w' => r = .returned (.tuple #[]) ∧ SR c w' m ∧ FT c.lo w w' := by
  obtain ⟨L, V, SE, SS, LA, VA, hx, hm⟩ := h
  have hkL : ¬ k ∈ L := fun e => by have := ((hm.set_.1 k).1 e).2; rw [hp] at this; simp at this
  have hlook : ∀ o n, (Instr.lookup 62 (.map (some c.m1)) (relV k) true).run Yba.prog ((w.alloc o).drewN n) = .ok (.tuple #[.int .u64 0, .bool false]) ((w.alloc o).drewN n) := fun o n => by
    have := (hx.set_.fr (((Fr.refl (fun _ => False) w).alloc o).drewN n) (fun s => s)).look kok54 Yba.underlying62 z26 hk true
    rw [if_neg hkL, decide_eq_false hkL] at this
    simpa using this
  have c0 : ∀ o, (w.alloc o).cell? ⟨c.sb, 0, none⟩ = some (.map (some c.m1)) := fun o => ((hx.blk.alloc o).cell 0).trans rfl
  have fin := fun (o : Obj) (n : Nat) => (⟨⟨L, V, SE, SS, LA, VA, hx.fr0 (((Fr.refl (fun _ => False) w).alloc o).drewN n), hm⟩, ((Fr.refl (fun k => c.lo ≤ k ∧ TurnO (w.heap[k]?)) w).alloc o).drewN n⟩ : SR c ((w.alloc o).drewN n) m ∧ FT c.lo w ((w.alloc o).drewN n))
  unfold relV relC at *
  generalize bidS (k % 2) = s1 at *
  generalize rnS (k / 2 % 2) = s2 at *
  generalize bidS (k / 4 % 2) = s4 at *
  generalize mS k = s5 at *
  clear hx hm
  go_enter Yba.func22, Yba.ntmps22
  go_wp2_with fail
  go_quiet (fail)
  go_wp2
  refine bodyPost_ret (results_none rfl _ _ _) rfl ?_
  exact ⟨rfl, fin _ _⟩

set_option maxHeartbeats 4000000 in
theorem rem_ent {c : Cfg} {w : World} {m : Mdl} (h : SR c w m) {k : Nat} (hk : k < 16) (hp : m.pr k = true) (h8 : ¬ 8 ≤ k) (hn : m.log.length ≤ 100000) :
    Calls Yba.prog 22 #[.pointer (some ⟨c.sb, 0, none⟩), relV k] w fun r w' => r = .returned (.tuple #[]) ∧ SR c w' (mRem m k) ∧ FT c.lo w w' := by
  obtain ⟨L, V, SE, SS, LA, VA, hx, hm⟩ := h
  have hkL : k ∈ L := (hm.set_.1 k).2 ⟨hk, hp⟩
  have hVk := hm.set_.2 k hkL
  have hlook : ∀ o n, (Instr.lookup 62 (.map (some c.m1)) (relV k) true).run Yba.prog ((w.alloc o).drewN n) = .ok (.tuple #[.int .u64 (m.pl k : Nat), .bool true]) ((w.alloc o).drewN n) := fun o n => by
    have := (hx.set_.fr (((Fr.refl (fun _ => False) w).alloc o).drewN n) (fun s => s)).look kok54 Yba.underlying62 z26 hk true
    rw [if_pos hkL, decide_eq_true hkL, hVk] at this
    simpa using this
  have c0 : ∀ o, (w.alloc o).cell? ⟨c.sb, 0, none⟩ = some (.map (some c.m1)) := fun o => ((hx.blk.alloc o).cell 0).trans rfl
  have hmS : mS k = ⟨#[]⟩ := by simp [mS, show ¬ k / 8 % 2 = 1 by omega]
  have hq : k % 4 < 4 := Nat.mod_lt _ (by omega)
  have hL := hm.ent _ hq
  have hlenq : (SE (k % 4)).length ≤ 100000 := Nat.le_trans hL.len hn
  have hmem := expL_mem hm.inv hk hp
  rw [decide_eq_false h8] at hmem
  obtain ⟨i0, hi0, he0⟩ := hL.find hmem
  have HL : ∀ W : World, ER W c.m2 c.lo SE → _ := fun W hE => lrem_any hE hq hL.Asc hlenq hi0 (p := m.pl k) (by rw [he0]) (by rw [he0]; rfl)
  rw [er_of_rel] at HL
  have hkey : relV k = .agg #[.string docS, .string (bidS (k % 2)), .string (rnS (k / 2 % 2)), .string userS, .string (bidS (k / 4 % 2)), .string ⟨#[]⟩] := by rw [← hmS]; rfl
  rw [hkey] at hlook
  rw [hkey]
  generalize hs1 : bidS (k % 2) = s1 at *
  generalize hs2 : rnS (k / 2 % 2) = s2 at *
  generalize hs4 : bidS (k / 4 % 2) = s4 at *
  generalize hP : m.pl k = pk at *
  go_enter Yba.func22, Yba.ntmps22
  go_wp2_with fail
  go_quiet (fail)
  go_upto_region 3 with fail
  obtain ⟨w3, hw3⟩ : ∃ w3 : World, w3 = (w.alloc (.cells #[.string docS, .string s1, .string s2, .string userS, .string s4, .string ⟨#[]⟩] 54)).drewN nq := ⟨_, rfl⟩
  have hx3 : SX c w3 m.log.length L V SE SS LA VA := by rw [hw3]; exact hx.fr0 (((Fr.refl (fun _ => False) w).alloc _).drewN _)
  have hT3 : FT c.lo w w3 := by rw [hw3]; exact ((Fr.refl (fun k => c.lo ≤ k ∧ TurnO (w.heap[k]?)) w).alloc _).drewN _
  have hb54' : Blk w3 w.heap.size #[.string docS, .string s1, .string s2, .string userS, .string s4, .string ⟨#[]⟩] 54 := by rw [hw3]; exact Blk.new w _ 54 _ rfl
  rw [← hw3]
  clear hw3 hlook c0
  go_cut [] from 7 (fun wc => Mf 16 relV wc c.m1 (L.filter (fun x => decide (x ≠ k))) V ∧ Fr (fun k => k = c.m1) w3 wc)
  case first =>
    have hm3 := hx3.set_.fr ((Fr.refl (fun _ => False) w3).drew) (fun s => s)
    have a0 : w3.cell? ⟨c.sb, 0, none⟩ = some (.map (some c.m1)) := (hx3.blk.cell 0).trans rfl
    have b0 : w3.cell? ⟨w.heap.size, 0, none⟩ = some (.string docS) := (hb54'.cell 0).trans rfl
    have b1 : w3.cell? ⟨w.heap.size, 1, none⟩ = some (.string s1) := (hb54'.cell 1).trans rfl
    have b2 : w3.cell? ⟨w.heap.size, 2, none⟩ = some (.string s2) := (hb54'.cell 2).trans rfl
    have b3 : w3.cell? ⟨w.heap.size, 3, none⟩ = some (.string userS) := (hb54'.cell 3).trans rfl
    have b4 : w3.cell? ⟨w.heap.size, 4, none⟩ = some (.string s4) := (hb54'.cell 4).trans rfl
    have b5 : w3.cell? ⟨w.heap.size, 5, none⟩ = some (.string ⟨#[]⟩) := (hb54'.cell 5).trans rfl
    clear hx hx3 hm hT3 HL hL
    go_region_law (refine step_del rfl (.tmp 21) (.tmp 22) 62 rfl kok54 Yba.underlying62 (by simp [Act.eval]) hm3 hk (by rw [hkey]; simp [Act.eval]) ?_; intro w4 hm4 hf4)
    all_goals go_wp2
    all_goals go_meet
    all_goals exact ⟨by simpa using hm4, (Fr.refl _ w3).drew.trans hf4⟩
  case rest =>
    obtain ⟨hm4, hf4⟩ := hcut
    obtain ⟨hx4, hT4⟩ := hx3.fr1 hf4 hm4
    have hT4' := FT.trans hT3 hT4
    have hb54 : Blk wc w.heap.size #[.string docS, .string s1, .string s2, .string userS, .string s4, .string ⟨#[]⟩] 54 := hf4.blk hb54' (fun e => mf_ne hx3.set_ hb54' e)
    have HL' := fun o => HL ((wc.alloc o).drew) (hx4.ent.fr (((Fr.refl (fun _ => False) wc).alloc o).drew) (fun s => s) (fun _ _ _ s => s))
    have a1 : ∀ o, (wc.alloc o).cell? ⟨c.sb, 1, none⟩ = some (.map (some c.m2)) := fun o => ((hx4.blk.alloc o).cell 1).trans rfl
    have b0 : wc.cell? ⟨w.heap.size, 0, none⟩ = some (.string docS) := (hb54.cell 0).trans rfl
    have b1 : wc.cell? ⟨w.heap.size, 1, none⟩ = some (.string s1) := (hb54.cell 1).trans rfl
    have b2 : wc.cell? ⟨w.heap.size, 2, none⟩ = some (.string s2) := (hb54.cell 2).trans rfl
    have d5 : ∀ o, (wc.alloc o).cell? ⟨w.heap.size, 5, none⟩ = some (.string ⟨#[]⟩) := fun o => ((hb54.alloc o).cell 5).trans rfl
    have fin := fun (o : Obj) (w5 : World) (hE : ∃ T, ER w5 c.m2 c.lo (updS SE (k % 4) T) ∧ FE c.m2 c.lo ((wc.alloc o).drew) w5 ∧ live T = live (hole1 (SE (k % 4)) i0 pk) ∧ T.Sublist (hole1 (SE (k % 4)) i0 pk) ∧ (T ≠ [] → live T ≠ [])) => (by
      obtain ⟨T, hE, hf, t1, t2, t3⟩ := hE
      obtain ⟨q1, q2⟩ := (hx4.fr0 (((Fr.refl (fun _ => False) wc).alloc o).drew)).fr2 hf hE
      refine ⟨⟨_, _, _, _, _, _, q1, ?_⟩, FT.trans (FT.trans hT4' ((((Fr.refl (fun k => c.lo ≤ k ∧ TurnO (wc.heap[k]?)) wc).alloc o).drew))) q2⟩
      refine sm_rem hm hk hp (SE' := updS SE (k % 4) T) (SS' := SS) (Or.inr ⟨h8, T, rfl, ?_⟩) (Or.inl ⟨h8, rfl⟩)
      rw [hP]
      exact hL.rem hi0 (by rw [he0]) t1 t2 t3 : SR c w5 (mRem m k) ∧ FT c.lo w w5)
    clear hx hx3 hf4 hm4 hb54 hb54' hT3 hT4 HL
    go_upto_region 6 with fail
    go_region_with (go_at_call 26; refine (HL' _).mono ?_; rintro r w5 ⟨rfl, hE⟩)
    all_goals go_wp2
    all_goals go_end0
    all_goals exact ⟨rfl, fin _ _ (by assumption)⟩

set_option maxHeartbeats 4000000 in
theorem rem_set {c : Cfg} {w : World} {m : Mdl} (h : SR c w m) {k : Nat} (hk : k < 16) (hp : m.pr k = true) (h8 : 8 ≤ k) (hn : m.log.length ≤ 100000) :
    Calls Yba.prog 22 #[.pointer (some ⟨c.sb, 0, none⟩), relV k] w fun r w' => r = .returned (.tuple #[]) ∧ SR c w' (mRem m k) ∧ FT c.lo w w' := by
  obtain ⟨L, V, SE, SS, LA, VA, hx, hm⟩ := h
  have hkL : k ∈ L := (hm.set_.1 k).2 ⟨hk, hp⟩
  have hVk := hm.set_.2 k hkL
  have hlook : ∀ o n, (Instr.lookup 62 (.map (some c.m1)) (relV k) true).run Yba.prog ((w.alloc o).drewN n) = .ok (.tuple #[.int .u64 (m.pl k : Nat), .bool true]) ((w.alloc o).drewN n) := fun o n => by
    have := (hx.set_.fr (((Fr.refl (fun _ => False) w).alloc o).drewN n) (fun s => s)).look kok54 Yba.underlying62 z26 hk true
    rw [if_pos hkL, decide_eq_true hkL, hVk] at this
    simpa using this
  have c0 : ∀ o, (w.alloc o).cell? ⟨c.sb, 0, none⟩ = some (.map (some c.m1)) := fun o => ((hx.blk.alloc o).cell 0).trans rfl
  have hmS : mS k = ⟨#[109]⟩ := by simp [mS, show k / 8 % 2 = 1 by omega]
  have hq : k % 4 < 4 := Nat.mod_lt _ (by omega)
  have hL := hm.sets _ hq
  have hlenq : (SS (k % 4)).length ≤ 100000 := Nat.le_trans hL.len hn
  have hmem := expL_mem hm.inv hk hp
  rw [decide_eq_true h8] at hmem
  obtain ⟨i0, hi0, he0⟩ := hL.find hmem
  have HL : ∀ W : World, Sj.ER W c.m3 c.lo SS → _ := fun W hE => Sj.lrem_any hE hq hL.Asc hlenq hi0 (p := m.pl k) (by rw [he0]) (by rw [he0]; rfl)
  rw [er_of_rel] at HL
  have hkey : relV k = .agg #[.string docS, .string (bidS (k % 2)), .string (rnS (k / 2 % 2)), .string userS, .string (bidS (k / 4 % 2)), .string ⟨#[109]⟩] := by rw [← hmS]; rfl
  rw [hkey] at hlook
  rw [hkey]
  generalize hs1 : bidS (k % 2) = s1 at *
  generalize hs2 : rnS (k / 2 % 2) = s2 at *
  generalize hs4 : bidS (k / 4 % 2) = s4 at *
  generalize hP : m.pl k = pk at *
  go_enter Yba.func22, Yba.ntmps22
  go_wp2_with fail
  go_quiet (fail)
  go_upto_region 3 with fail
  obtain ⟨w3, hw3⟩ : ∃ w3 : World, w3 = (w.alloc (.cells #[.string docS, .string s1, .string s2, .string userS, .string s4, .string ⟨#[109]⟩] 54)).drewN nq := ⟨_, rfl⟩
  have hx3 : SX c w3 m.log.length L V SE SS LA VA := by rw [hw3]; exact hx.fr0 (((Fr.refl (fun _ => False) w).alloc _).drewN _)
  have hT3 : FT c.lo w w3 := by rw [hw3]; exact ((Fr.refl (fun k => c.lo ≤ k ∧ TurnO (w.heap[k]?)) w).alloc _).drewN _
  have hb54' : Blk w3 w.heap.size #[.string docS, .string s1, .string s2, .string userS, .string s4, .string ⟨#[109]⟩] 54 := by rw [hw3]; exact Blk.new w _ 54 _ rfl
  rw [← hw3]
  clear hw3 hlook c0
  go_cut [] from 7 (fun wc => Mf 16 relV wc c.m1 (L.filter (fun x => decide (x ≠ k))) V ∧ Fr (fun k => k = c.m1) w3 wc)
  case first =>
    have hm3 := hx3.set_.fr ((Fr.refl (fun _ => False) w3).drew) (fun s => s)
    have a0 : w3.cell? ⟨c.sb, 0, none⟩ = some (.map (some c.m1)) := (hx3.blk.cell 0).trans rfl
    have b0 : w3.cell? ⟨w.heap.size, 0, none⟩ = some (.string docS) := (hb54'.cell 0).trans rfl
    have b1 : w3.cell? ⟨w.heap.size, 1, none⟩ = some (.string s1) := (hb54'.cell 1).trans rfl
    have b2 : w3.cell? ⟨w.heap.size, 2, none⟩ = some (.string s2) := (hb54'.cell 2).trans rfl
    have b3 : w3.cell? ⟨w.heap.size, 3, none⟩ = some (.string userS) := (hb54'.cell 3).trans rfl
    have b4 : w3.cell? ⟨w.heap.size, 4, none⟩ = some (.string s4) := (hb54'.cell 4).trans rfl
    have b5 : w3.cell? ⟨w.heap.size, 5, none⟩ = some (.string ⟨#[109]⟩) := (hb54'.cell 5).trans rfl
    clear hx hx3 hm hT3 HL hL
    go_region_law (refine step_del rfl (.tmp 21) (.tmp 22) 62 rfl kok54 Yba.underlying62 (by simp [Act.eval]) hm3 hk (by rw [hkey]; simp [Act.eval]) ?_; intro w4 hm4 hf4)
    all_goals go_wp2
    all_goals go_meet
    all_goals exact ⟨by simpa using hm4, (Fr.refl _ w3).drew.trans hf4⟩
  case rest =>
    obtain ⟨hm4, hf4⟩ := hcut
    obtain ⟨hx4, hT4⟩ := hx3.fr1 hf4 hm4
    have hT4' := FT.trans hT3 hT4
    have hb54 : Blk wc w.heap.size #[.string docS, .string s1, .string s2, .string userS, .string s4, .string ⟨#[109]⟩] 54 := hf4.blk hb54' (fun e => mf_ne hx3.set_ hb54' e)
    have HL' := fun o => HL ((wc.alloc o).drew) (hx4.sets.fr (((Fr.refl (fun _ => False) wc).alloc o).drew) (fun s => s) (fun _ _ _ s => s))
    have a1 : ∀ o, (wc.alloc o).cell? ⟨c.sb, 2, none⟩ = some (.map (some c.m3)) := fun o => ((hx4.blk.alloc o).cell 2).trans rfl
    have b0 : wc.cell? ⟨w.heap.size, 0, none⟩ = some (.string docS) := (hb54.cell 0).trans rfl
    have b1 : wc.cell? ⟨w.heap.size, 1, none⟩ = some (.string s1) := (hb54.cell 1).trans rfl
    have b2 : wc.cell? ⟨w.heap.size, 2, none⟩ = some (.string s2) := (hb54.cell 2).trans rfl
    have d5 : ∀ o, (wc.alloc o).cell? ⟨w.heap.size, 5, none⟩ = some (.string ⟨#[109]⟩) := fun o => ((hb54.alloc o).cell 5).trans rfl
    have fin := fun (o : Obj) (w5 : World) (hE : ∃ T, Sj.ER w5 c.m3 c.lo (updS SS (k % 4) T) ∧ Sj.FE c.m3 c.lo ((wc.alloc o).drew) w5 ∧ live T = live (hole1 (SS (k % 4)) i0 pk) ∧ T.Sublist (hole1 (SS (k % 4)) i0 pk) ∧ (T ≠ [] → live T ≠ [])) => (by
      obtain ⟨T, hE, hf, t1, t2, t3⟩ := hE
      obtain ⟨q1, q2⟩ := (hx4.fr0 (((Fr.refl (fun _ => False) wc).alloc o).drew)).fr3 hf hE
      refine ⟨⟨_, _, _, _, _, _, q1, ?_⟩, FT.trans (FT.trans hT4' ((((Fr.refl (fun k => c.lo ≤ k ∧ TurnO (wc.heap[k]?)) wc).alloc o).drew))) q2⟩
      refine sm_rem hm hk hp (SE' := SE) (SS' := updS SS (k % 4) T) (Or.inl ⟨h8, rfl⟩) (Or.inr ⟨h8, T, rfl, ?_⟩)
      rw [hP]
      exact hL.rem hi0 (by rw [he0]) t1 t2 t3 : SR c w5 (mRem m k) ∧ FT c.lo w w5)
    clear hx hx3 hf4 hm4 hb54 hb54' hT3 hT4 HL
    go_upto_region 7 with fail
    go_region_with (go_at_call 27; refine (HL' _).mono ?_; rintro r w5 ⟨rfl, hE⟩)
    all_goals go_wp2
    all_goals go_end0
    all_goals exact ⟨rfl, fin _ _ (by assumption)⟩

theorem sm_same {m : Mdl} {k : Nat} (hp : m.pr k = false) : mRem m k = m := by
  have : upB m.pr k false = m.pr := by
    funext j
    unfold upB
    split
    · rename_i e; rw [e, hp]
    · rfl
  unfold mRem
  rw [this]

/-- Store.remove -/
theorem rem_any {c : Cfg} {w : World} {m : Mdl} (h : SR c w m) {k : Nat} (hk : k < 16) (hn : m.log.length ≤ 100000) :
    Calls Yba.prog 22 #[.pointer (some ⟨c.sb, 0, none⟩), relV k] w fun r w' => r = .returned (.tuple #[]) ∧ SR c w' (mRem m k) ∧ FT c.lo w w' := by
  by_cases hp : m.pr k = true
  · by_cases h8 : 8 ≤ k
    · exact rem_set h hk hp h8 hn
    · exact rem_ent h hk hp h8 hn
  · have hp' : m.pr k = false := by simpa using hp
    rw [sm_same hp']
    exact rem_old h hk hp'

end Go.Proofs.Ybulkomi
