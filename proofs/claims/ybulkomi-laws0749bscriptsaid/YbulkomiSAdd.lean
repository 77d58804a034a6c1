/-
  Store.add.
-/
import Derived.Test.YbulkomiStore
import Derived.Deep.RegionWith
namespace Go.Proofs.Ybulkomi
open Go.RowKit

set_option maxHeartbeats 2000000 in
theorem add_old {c : Cfg} {w : World} {m : Mdl} (h : SR c w m) {k : Nat} (hk : k < 16) (hp : m.pr k = true) :
    Calls Yba.prog 21 #[.pointer (some ⟨c.sb, 0, none⟩), relV k] w fun r w' => r = .returned (.tuple #[]) ∧ SR c w' m ∧ FT c.lo w w' := by
  obtain ⟨L, V, SE, SS, LA, VA, hx, hm⟩ := h
  have hkL : k ∈ L := (hm.set_.1 k).2 ⟨hk, hp⟩
  have HH : ∀ o, _ := fun o => has_any (hx.blk.alloc o) (hx.set_.fr ((Fr.refl (fun _ => False) w).alloc o) (fun s => s)) hk
  rw [decide_eq_true hkL] at HH
  have hz := fun (o : Obj) (w' : World) (hf : Fr (fun _ => False) (w.alloc o) w') => ((Fr.refl (fun _ => False) w).alloc o).trans hf
  unfold relV relC at *
  generalize bidS (k % 2) = s1 at *
  generalize rnS (k / 2 % 2) = s2 at *
  generalize bidS (k / 4 % 2) = s4 at *
  generalize mS k = s5 at *
  go_enter Yba.func21, Yba.ntmps21
  go_wp2_with (go_at_call 12; refine (HH _).mono ?_; rintro r w2 ⟨rfl, hf2⟩)
  refine bodyPost_ret (results_none rfl _ _ _) rfl ?_
  have hf := hz _ _ hf2
  exact ⟨rfl, ⟨L, V, SE, SS, LA, VA, hx.fr0 hf, hm⟩, hf.mono (fun _ s => s.elim)⟩

set_option maxHeartbeats 4000000 in
theorem add_ent {c : Cfg} {w : World} {m : Mdl} (h : SR c w m) {k : Nat} (hk : k < 16) (hp : m.pr k = false) (h8 : ¬ 8 ≤ k) (hn : m.log.length ≤ 100000) :
    Calls Yba.prog 21 #[.pointer (some ⟨c.sb, 0, none⟩), relV k] w fun r w' => r = .returned (.tuple #[]) ∧ SR c w' (mNew m k) ∧ FT c.lo w w' := by
  obtain ⟨L, V, SE, SS, LA, VA, hx, hm⟩ := h
  have hkL : ¬ k ∈ L := fun e => by have := ((hm.set_.1 k).1 e).2; rw [hp] at this; simp at this
  have HH : ∀ o, _ := fun o => has_any (hx.blk.alloc o) (hx.set_.fr ((Fr.refl (fun _ => False) w).alloc o) (fun s => s)) hk
  rw [decide_eq_false hkL] at HH
  have hmS : mS k = ⟨#[]⟩ := by simp [mS, show ¬ k / 8 % 2 = 1 by omega]
  have hq : k % 4 < 4 := Nat.mod_lt _ (by omega)
  have hlenq : (SE (k % 4)).length ≤ 100000 := Nat.le_trans (hm.ent _ hq).len hn
  have HL : ∀ W : World, ER W c.m2 c.lo SE → c.lo ≤ W.heap.size → _ := fun W hE hlo => ladd_any hE hlo hq m.log.length k hlenq
  rw [er_of_rel] at HL
  have hkey : relV k = .agg #[.string docS, .string (bidS (k % 2)), .string (rnS (k / 2 % 2)), .string userS, .string (bidS (k / 4 % 2)), .string ⟨#[]⟩] := by rw [← hmS]; rfl
  rw [hkey] at HH
  rw [hkey]
  generalize hs1 : bidS (k % 2) = s1 at *
  generalize hs2 : rnS (k / 2 % 2) = s2 at *
  generalize hs4 : bidS (k / 4 % 2) = s4 at *
  generalize hN : m.log.length = n at *
  go_enter Yba.func21, Yba.ntmps21
  go_upto_region 2 with (go_at_call 12; refine (HH _).mono ?_; rintro r w2 ⟨rfl, hf2⟩)
  have hx2 := (hx.fr0 ((Fr.refl (fun _ => False) w).alloc _)).fr0 hf2
  have hT2 : FT c.lo w w2 := (((Fr.refl (fun _ => False) w).alloc _).trans hf2).mono (fun _ s => s.elim)
  have hb54 : Blk w2 w.heap.size #[.string docS, .string s1, .string s2, .string userS, .string s4, .string ⟨#[]⟩] 54 := hf2.blk (Blk.new w _ 54 _ rfl) (fun s => s)
  clear hf2 HH
  have a3 : w2.cell? ⟨c.sb, 3, none⟩ = some (.int .u64 (n : Nat)) := (hx2.blk.cell 3).trans rfl
  have f3 := hx2.blk.frozen 3
  go_upto_region 4 with fail
  obtain ⟨w3, hw3⟩ : ∃ w3 : World, w3 = w2.setCell ⟨c.sb, 3, none⟩ (.int .u64 ((n : Int) + 1)) := ⟨_, rfl⟩
  obtain ⟨hx3, hT3⟩ : SX c w3 (n + 1) L V SE SS LA VA ∧ FT c.lo w2 w3 := by
    rw [hw3]
    exact hx2.frB ((Fr.refl (fun k => k = c.sb) w2).setCell (p := ⟨c.sb, 3, none⟩) (Or.inr rfl) _) (hx2.blk.setSame 3 _)
  have hb54' : Blk w3 w.heap.size #[.string docS, .string s1, .string s2, .string userS, .string s4, .string ⟨#[]⟩] 54 := by
    rw [hw3]
    exact hb54.setOther (by exact fun e => blk_ne hb54 hx2.blk (by decide) e.symm) _
  rw [← hw3]
  clear hw3 hb54 a3 f3
  have hT3' := FT.trans hT2 hT3
  clear hT2 hT3 hx2
  go_cut [] from 6 (fun wc => Mf 16 relV wc c.m1 (putK L k) (putV V k (.int .u64 (n : Nat))) ∧ Fr (fun k => k = c.m1) w3 wc)
  case first =>
    obtain ⟨w4, hrun, hm4, hf4⟩ := Mf.put kok54 Yba.underlying62 (hx3.set_.fr ((Fr.refl (fun _ => False) w3).drew) (fun s => s)) hk (.int .u64 (n : Nat))
    rw [hkey] at hrun
    have hf4' : Fr (fun k => k = c.m1) w3 w4 := ((Fr.refl _ w3).drew).trans hf4
    have a0 : w3.cell? ⟨c.sb, 0, none⟩ = some (.map (some c.m1)) := (hx3.blk.cell 0).trans rfl
    have b0 : w3.cell? ⟨w.heap.size, 0, none⟩ = some (.string docS) := (hb54'.cell 0).trans rfl
    have b1 : w3.cell? ⟨w.heap.size, 1, none⟩ = some (.string s1) := (hb54'.cell 1).trans rfl
    have b2 : w3.cell? ⟨w.heap.size, 2, none⟩ = some (.string s2) := (hb54'.cell 2).trans rfl
    have b3 : w3.cell? ⟨w.heap.size, 3, none⟩ = some (.string userS) := (hb54'.cell 3).trans rfl
    have b4 : w3.cell? ⟨w.heap.size, 4, none⟩ = some (.string s4) := (hb54'.cell 4).trans rfl
    have b5 : w3.cell? ⟨w.heap.size, 5, none⟩ = some (.string ⟨#[]⟩) := (hb54'.cell 5).trans rfl
    clear hx hx3 hm hT3' HL
    go_region
    all_goals go_wp2
    all_goals go_meet
    all_goals exact ⟨hm4, hf4'⟩
  case rest =>
    obtain ⟨hm4, hf4⟩ := hcut
    obtain ⟨hx4, hT4⟩ := hx3.fr1 hf4 hm4
    have hT4' := FT.trans hT3' hT4
    have hb54 : Blk wc w.heap.size #[.string docS, .string s1, .string s2, .string userS, .string s4, .string ⟨#[]⟩] 54 := hf4.blk hb54' (fun e => mf_ne hx3.set_ hb54' e)
    have HL' := fun o => HL ((wc.alloc o).drew) (hx4.ent.fr (((Fr.refl (fun _ => False) wc).alloc o).drew) (fun s => s) (fun _ _ _ s => s)) (by have := hx4.lo_; show c.lo ≤ (wc.alloc o).heap.size; simp; omega)
    have a1 : ∀ o, (wc.alloc o).cell? ⟨c.sb, 1, none⟩ = some (.map (some c.m2)) := fun o => ((hx4.blk.alloc o).cell 1).trans rfl
    have b0 : wc.cell? ⟨w.heap.size, 0, none⟩ = some (.string docS) := (hb54.cell 0).trans rfl
    have b1 : wc.cell? ⟨w.heap.size, 1, none⟩ = some (.string s1) := (hb54.cell 1).trans rfl
    have b2 : wc.cell? ⟨w.heap.size, 2, none⟩ = some (.string s2) := (hb54.cell 2).trans rfl
    have d3 : ∀ o, (wc.alloc o).cell? ⟨w.heap.size, 3, none⟩ = some (.string userS) := fun o => ((hb54.alloc o).cell 3).trans rfl
    have d4 : ∀ o, (wc.alloc o).cell? ⟨w.heap.size, 4, none⟩ = some (.string s4) := fun o => ((hb54.alloc o).cell 4).trans rfl
    have d5 : ∀ o, (wc.alloc o).cell? ⟨w.heap.size, 5, none⟩ = some (.string ⟨#[]⟩) := fun o => ((hb54.alloc o).cell 5).trans rfl
    have hl : (mNew m k).log.length = n + 1 := by simp [mNew, hN]
    have fin := fun (o : Obj) (w5 : World) (hE : ER w5 c.m2 c.lo (updS SE (k % 4) (SE (k % 4) ++ [(n, some k)]))) (hf : FE c.m2 c.lo ((wc.alloc o).drew) w5) => (by
      obtain ⟨q1, q2⟩ := (hx4.fr0 (((Fr.refl (fun _ => False) wc).alloc o).drew)).fr2 hf hE
      refine ⟨⟨_, _, _, _, _, _, by rw [hl]; exact q1, ?_⟩, FT.trans (FT.trans hT4' ((((Fr.refl (fun k => c.lo ≤ k ∧ TurnO (wc.heap[k]?)) wc).alloc o).drew))) q2⟩
      have := sm_new hm hk hp (SE' := updS SE (k % 4) (SE (k % 4) ++ [(n, some k)])) (SS' := SS) (by rw [if_neg h8, hN]) (by rw [if_neg h8])
      rw [hN] at this
      exact this : SR c w5 (mNew m k) ∧ FT c.lo w w5)
    clear hx hx3 hf4 hm4 hb54 hb54' hT3' hT4 HL
    go_upto_region 7 with fail
    go_region_with (go_at_call 24; refine (HL' _).mono ?_; rintro r w5 ⟨rfl, hE, hf⟩)
    all_goals go_wp2
    all_goals go_end0
    all_goals exact ⟨rfl, fin _ _ (by assumption) (by assumption)⟩

set_option maxHeartbeats 4000000 in
theorem add_set {c : Cfg} {w : World} {m : Mdl} (h : SR c w m) {k : Nat} (hk : k < 16) (hp : m.pr k = false) (h8 : 8 ≤ k) (hn : m.log.length ≤ 100000) :
    Calls Yba.prog 21 #[.pointer (some ⟨c.sb, 0, none⟩), relV k] w fun r w' => r = .returned (.tuple #[]) ∧ SR c w' (mNew m k) ∧ FT c.lo w w' := by
  obtain ⟨L, V, SE, SS, LA, VA, hx, hm⟩ := h
  have hkL : ¬ k ∈ L := fun e => by have := ((hm.set_.1 k).1 e).2; rw [hp] at this; simp at this
  have HH : ∀ o, _ := fun o => has_any (hx.blk.alloc o) (hx.set_.fr ((Fr.refl (fun _ => False) w).alloc o) (fun s => s)) hk
  rw [decide_eq_false hkL] at HH
  have hmS : mS k = ⟨#[109]⟩ := by simp [mS, show k / 8 % 2 = 1 by omega]
  have hq : k % 4 < 4 := Nat.mod_lt _ (by omega)
  have hlenq : (SS (k % 4)).length ≤ 100000 := Nat.le_trans (hm.sets _ hq).len hn
  have HL : ∀ W : World, Sj.ER W c.m3 c.lo SS → c.lo ≤ W.heap.size → _ := fun W hE hlo => Sj.ladd_any hE hlo hq m.log.length k hlenq
  rw [er_of_rel] at HL
  have hkey : relV k = .agg #[.string docS, .string (bidS (k % 2)), .string (rnS (k / 2 % 2)), .string userS, .string (bidS (k / 4 % 2)), .string ⟨#[109]⟩] := by rw [← hmS]; rfl
  rw [hkey] at HH
  rw [hkey]
  generalize hs1 : bidS (k % 2) = s1 at *
  generalize hs2 : rnS (k / 2 % 2) = s2 at *
  generalize hs4 : bidS (k / 4 % 2) = s4 at *
  generalize hN : m.log.length = n at *
  go_enter Yba.func21, Yba.ntmps21
  go_upto_region 2 with (go_at_call 12; refine (HH _).mono ?_; rintro r w2 ⟨rfl, hf2⟩)
  have hx2 := (hx.fr0 ((Fr.refl (fun _ => False) w).alloc _)).fr0 hf2
  have hT2 : FT c.lo w w2 := (((Fr.refl (fun _ => False) w).alloc _).trans hf2).mono (fun _ s => s.elim)
  have hb54 : Blk w2 w.heap.size #[.string docS, .string s1, .string s2, .string userS, .string s4, .string ⟨#[109]⟩] 54 := hf2.blk (Blk.new w _ 54 _ rfl) (fun s => s)
  clear hf2 HH
  have a3 : w2.cell? ⟨c.sb, 3, none⟩ = some (.int .u64 (n : Nat)) := (hx2.blk.cell 3).trans rfl
  have f3 := hx2.blk.frozen 3
  go_upto_region 4 with fail
  obtain ⟨w3, hw3⟩ : ∃ w3 : World, w3 = w2.setCell ⟨c.sb, 3, none⟩ (.int .u64 ((n : Int) + 1)) := ⟨_, rfl⟩
  obtain ⟨hx3, hT3⟩ : SX c w3 (n + 1) L V SE SS LA VA ∧ FT c.lo w2 w3 := by
    rw [hw3]
    exact hx2.frB ((Fr.refl (fun k => k = c.sb) w2).setCell (p := ⟨c.sb, 3, none⟩) (Or.inr rfl) _) (hx2.blk.setSame 3 _)
  have hb54' : Blk w3 w.heap.size #[.string docS, .string s1, .string s2, .string userS, .string s4, .string ⟨#[109]⟩] 54 := by
    rw [hw3]
    exact hb54.setOther (by exact fun e => blk_ne hb54 hx2.blk (by decide) e.symm) _
  rw [← hw3]
  clear hw3 hb54 a3 f3
  have hT3' := FT.trans hT2 hT3
  clear hT2 hT3 hx2
  go_cut [] from 6 (fun wc => Mf 16 relV wc c.m1 (putK L k) (putV V k (.int .u64 (n : Nat))) ∧ Fr (fun k => k = c.m1) w3 wc)
  case first =>
    obtain ⟨w4, hrun, hm4, hf4⟩ := Mf.put kok54 Yba.underlying62 (hx3.set_.fr ((Fr.refl (fun _ => False) w3).drew) (fun s => s)) hk (.int .u64 (n : Nat))
    rw [hkey] at hrun
    have hf4' : Fr (fun k => k = c.m1) w3 w4 := ((Fr.refl _ w3).drew).trans hf4
    have a0 : w3.cell? ⟨c.sb, 0, none⟩ = some (.map (some c.m1)) := (hx3.blk.cell 0).trans rfl
    have b0 : w3.cell? ⟨w.heap.size, 0, none⟩ = some (.string docS) := (hb54'.cell 0).trans rfl
    have b1 : w3.cell? ⟨w.heap.size, 1, none⟩ = some (.string s1) := (hb54'.cell 1).trans rfl
    have b2 : w3.cell? ⟨w.heap.size, 2, none⟩ = some (.string s2) := (hb54'.cell 2).trans rfl
    have b3 : w3.cell? ⟨w.heap.size, 3, none⟩ = some (.string userS) := (hb54'.cell 3).trans rfl
    have b4 : w3.cell? ⟨w.heap.size, 4, none⟩ = some (.string s4) := (hb54'.cell 4).trans rfl
    have b5 : w3.cell? ⟨w.heap.size, 5, none⟩ = some (.string ⟨#[109]⟩) := (hb54'.cell 5).trans rfl
    clear hx hx3 hm hT3' HL
    go_region
    all_goals go_wp2
    all_goals go_meet
    all_goals exact ⟨hm4, hf4'⟩
  case rest =>
    obtain ⟨hm4, hf4⟩ := hcut
    obtain ⟨hx4, hT4⟩ := hx3.fr1 hf4 hm4
    have hT4' := FT.trans hT3' hT4
    have hb54 : Blk wc w.heap.size #[.string docS, .string s1, .string s2, .string userS, .string s4, .string ⟨#[109]⟩] 54 := hf4.blk hb54' (fun e => mf_ne hx3.set_ hb54' e)
    have HL' := fun o => HL ((wc.alloc o).drew) (hx4.sets.fr (((Fr.refl (fun _ => False) wc).alloc o).drew) (fun s => s) (fun _ _ _ s => s)) (by have := hx4.lo_; show c.lo ≤ (wc.alloc o).heap.size; simp; omega)
    have a1 : ∀ o, (wc.alloc o).cell? ⟨c.sb, 2, none⟩ = some (.map (some c.m3)) := fun o => ((hx4.blk.alloc o).cell 2).trans rfl
    have b0 : wc.cell? ⟨w.heap.size, 0, none⟩ = some (.string docS) := (hb54.cell 0).trans rfl
    have b1 : wc.cell? ⟨w.heap.size, 1, none⟩ = some (.string s1) := (hb54.cell 1).trans rfl
    have b2 : wc.cell? ⟨w.heap.size, 2, none⟩ = some (.string s2) := (hb54.cell 2).trans rfl
    have d3 : ∀ o, (wc.alloc o).cell? ⟨w.heap.size, 3, none⟩ = some (.string userS) := fun o => ((hb54.alloc o).cell 3).trans rfl
    have d4 : ∀ o, (wc.alloc o).cell? ⟨w.heap.size, 4, none⟩ = some (.string s4) := fun o => ((hb54.alloc o).cell 4).trans rfl
    have d5 : ∀ o, (wc.alloc o).cell? ⟨w.heap.size, 5, none⟩ = some (.string ⟨#[109]⟩) := fun o => ((hb54.alloc o).cell 5).trans rfl
    have hl : (mNew m k).log.length = n + 1 := by simp [mNew, hN]
    have fin := fun (o : Obj) (w5 : World) (hE : Sj.ER w5 c.m3 c.lo (updS SS (k % 4) (SS (k % 4) ++ [(n, some k)]))) (hf : Sj.FE c.m3 c.lo ((wc.alloc o).drew) w5) => (by
      obtain ⟨q1, q2⟩ := (hx4.fr0 (((Fr.refl (fun _ => False) wc).alloc o).drew)).fr3 hf hE
      refine ⟨⟨_, _, _, _, _, _, by rw [hl]; exact q1, ?_⟩, FT.trans (FT.trans hT4' ((((Fr.refl (fun k => c.lo ≤ k ∧ TurnO (wc.heap[k]?)) wc).alloc o).drew))) q2⟩
      have := sm_new hm hk hp (SE' := SE) (SS' := updS SS (k % 4) (SS (k % 4) ++ [(n, some k)])) (by rw [if_pos h8]) (by rw [if_pos h8, hN])
      rw [hN] at this
      exact this : SR c w5 (mNew m k) ∧ FT c.lo w w5)
    clear hx hx3 hf4 hm4 hb54 hb54' hT3' hT4 HL
    go_upto_region 8 with fail
    go_region_with (go_at_call 25; refine (HL' _).mono ?_; rintro r w5 ⟨rfl, hE, hf⟩)
    all_goals go_wp2
    all_goals go_end0
    all_goals exact ⟨rfl, fin _ _ (by assumption) (by assumption)⟩

/-- Store.add -/
theorem add_any {c : Cfg} {w : World} {m : Mdl} (h : SR c w m) {k : Nat} (hk : k < 16) (hn : m.log.length ≤ 100000) :
    Calls Yba.prog 21 #[.pointer (some ⟨c.sb, 0, none⟩), relV k] w fun r w' => r = .returned (.tuple #[]) ∧ SR c w' (mAdd m k) ∧ FT c.lo w w' := by
  by_cases hp : m.pr k = true
  · have : mAdd m k = m := by simp [mAdd, hp]
    rw [this]
    exact add_old h hk hp
  · have : mAdd m k = mNew m k := by simp [mAdd, hp]
    rw [this]
    have hp' : m.pr k = false := by simpa using hp
    by_cases h8 : 8 ≤ k
    · exact add_set h hk hp' h8 hn
    · exact add_ent h hk hp' h8 hn

end Go.Proofs.Ybulkomi
