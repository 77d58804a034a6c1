/-
  subjectLists.remove (of entities).
-/
import Derived.Test.YbulkomiDelH
import Derived.Deep.CutRange
namespace Go.Proofs.Ybulkomi
open Go.RowKit

/-- the slots with slot i made a hole -/
def hole1 (S : List Slot) (i p : Nat) : List Slot := S.set i (p, none)
theorem asc_hole_len (S : List Slot) (i p : Nat) : (hole1 S i p).length = S.length := by simp [hole1]
theorem asc_hole_count (S : List Slot) : ∀ (i p : Nat) (hi : i < S.length), S[i].2.isSome = true → holes (hole1 S i p) = holes S + 1 := by
  induction S with
  | nil => intro i p h; simp at h
  | cons s t ih =>
    intro i p hi hs
    cases i with
    | zero =>
      simp at hs
      have : s.2.isNone = false := by
        cases hx : s.2 with
        | none => rw [hx] at hs; simp at hs
        | some k => rfl
      simp [hole1, holes, this]
    | succ i =>
      simp at hi hs
      have := ih i p hi hs
      unfold holes hole1 at *
      simp only [List.set_cons_succ, List.filter_cons]
      split
      · simp only [List.length_cons]; omega
      · exact this

/-- The key q goes. -/
theorem er_del {w w3 w4 : World} {mb lo : Nat} {S : Nat → List Slot} {L : List Nat} {V : Nat → Value} {g cap : Nat → Nat} (a : Mf 4 erV w mb L V) (b : ∀ q, q ∈ L ↔ (q < 4 ∧ S q ≠ []))
    (c : ∀ q, q ∈ L → V q = .agg #[.slice (some ⟨g q, 0, none⟩) (S q).length (cap q), .int .i64 (holes (S q) : Nat)] ∧ w.ownsRow lo 76 3 (.slice (some ⟨g q, 0, none⟩) (S q).length (cap q)) (S q).length (flat (S q)))
    (d : ∀ q r, q ∈ L → r ∈ L → g q = g r → q = r) {q : Nat} (hq : q ∈ L) (hf : Fr (fun k => k = g q) w w3)
    (hm : Mf 4 erV w4 mb (L.filter (fun x => decide (x ≠ q))) V) (hf4 : Fr (fun k => k = mb) w3 w4) : ER w4 mb lo (updS S q []) ∧ FE mb lo w w4 := by
  have hmem : ∀ r, r ∈ L.filter (fun x => decide (x ≠ q)) ↔ (r ∈ L ∧ r ≠ q) := fun r => by simp [List.mem_filter]
  refine ⟨⟨_, _, g, cap, hm, fun r => ?_, fun r hr => ?_, fun r s hr hs e => d r s ((hmem r).1 hr).1 ((hmem s).1 hs).1 e⟩, ?_⟩
  · rw [hmem, b]
    unfold updS
    by_cases e : r = q
    · simp [e]
    · simp [e]
  · obtain ⟨hrL, e⟩ := (hmem r).1 hr
    refine ⟨by simp [updS, e, (c r hrL).1], ?_⟩
    simp only [updS, if_neg e]
    have ho := (c r hrL).2
    have ho3 := hf.own ho (fun k hk s => by
      simp [Value.ownBlock] at hk
      subst hk
      exact e (d r q hrL hq s))
    refine hf4.own ho3 (fun k hk => ?_)
    simp [Value.ownBlock] at hk
    subst hk
    obtain ⟨cur, hb, _⟩ := own_blk ho
    exact mf_ne a hb
  · refine ((hf.mono (fun k hk => Or.inr ?_)).trans' hf4 (fun i _ e => Or.inl e))
    obtain ⟨cur, hb, hl, _⟩ := own_blk (c q hq).2
    exact ⟨hk ▸ hl, cur, hk ▸ hb⟩

set_option maxHeartbeats 2000000 in
theorem lrem_any {w : World} {mb lo : Nat} {S : Nat → List Slot} (h : ER w mb lo S) {q : Nat} (hq : q < 4) (hasc : Asc (S q)) (hlen : (S q).length ≤ 100000) {i0 : Nat} (hi0 : i0 < (S q).length) {p : Nat} (hp : (S q)[i0].1 = p) (hsome : (S q)[i0].2.isSome = true) :
    Calls Yba.prog 26 #[.map (some mb), erV q, .int .u64 p] w fun r w' => r = .returned (.tuple #[]) ∧ ∃ T, ER w' mb lo (updS S q T) ∧ FE mb lo w w' ∧ live T = live (hole1 (S q) i0 p) ∧ T.Sublist (hole1 (S q) i0 p) ∧ (T ≠ [] → live T ≠ []) := by
  obtain ⟨L, V, g, cap, a, b, c, d⟩ := h.rep
  have hqL : q ∈ L := (b q).2 ⟨hq, fun e => by rw [e] at hi0; simp at hi0⟩
  obtain ⟨hV, hown⟩ := c q hqL
  obtain ⟨hSz, hlo, hcap, hmx⟩ := own_sz hown rfl
  have hlook : ∀ o1, (Instr.lookup 64 (.map (some mb)) (erV q) false).run Yba.prog (w.alloc o1) = .ok (.agg #[.slice (some ⟨g q, 0, none⟩) (S q).length (cap q), .int .i64 (holes (S q) : Nat)]) (w.alloc o1) := fun o1 => by
    have := (a.fr ((Fr.refl (fun _ => False) w).alloc o1) (fun s => s)).look kok82 Yba.underlying64 z84 hq false
    rw [if_pos hqL, hV] at this
    simpa using this
  have hkey : erV q = .agg #[.string docS, .string (bidS (q % 2)), .string (rnS (q / 2 % 2))] := rfl
  rw [hkey] at hlook
  rw [hkey]
  generalize hs1 : bidS (q % 2) = s1 at *
  generalize hs2 : rnS (q / 2 % 2) = s2 at *
  have hgl : g q < w.heap.size := by
    obtain ⟨cur, hb', _⟩ := hSz
    exact hb'.lt
  have hcnt := asc_hole_count (S q) i0 p hi0 hsome
  have hhl := holes_live (S q)
  generalize hH : holes (S q) = H at *
  go_enter Yba.func26, Yba.ntmps26
  go_upto_region 3 with (go_at_call 30; refine (bsearch ((hSz.fr (((Fr.refl (fun _ => False) w).alloc _).alloc _) (fun s => s)).sl) rfl hasc hlen hi0 hp).mono ?_; rintro r w3 ⟨rfl, hf3⟩)
  have hsz3 := hf3.size
  simp at hsz3
  have hb82 : Blk w3 w.heap.size #[.string docS, .string s1, .string s2] 82 := hf3.blk ((Blk.new w _ 82 _ rfl).alloc _) (fun s => s)
  have hb84 : Blk w3 (w.heap.size + 1) #[.slice (some ⟨g q, 0, none⟩) (S q).length (cap q), .int .i64 H] 84 := hf3.blk (Blk.new _ _ 84 _ (by simp)) (fun s => s)
  have hfw3 : Fr (fun k => k = g q) w w3 := ((((Fr.refl _ w).alloc _).alloc _).trans' hf3 (fun _ _ s => s.elim))
  have hS3 : Sz w3 (g q) (cap q) (S q) := hSz.fr (((((Fr.refl (fun _ => False) w).alloc _).alloc _).trans hf3)) (fun s => s)
  obtain ⟨cur, hbw, hcs, _⟩ := id hS3
  have z1 := fun o => ((hbw.alloc o).cell (i0 * 3 + 1)).trans (Array.getElem?_eq_getElem (show i0 * 3 + 1 < cur.size by omega))
  have z2 := fun v o => (((hbw.setSame (i0 * 3 + 1) v).alloc o).cell (i0 * 3 + 1 + 1)).trans (Array.getElem?_eq_getElem (by simp; omega))
  have f1 := fun o => ((hbw.alloc o).frozen (i0 * 3 + 1))
  have f2 := fun v o => (((hbw.setSame (i0 * 3 + 1) v).alloc o).frozen (i0 * 3 + 1 + 1))
  have k0 := fun o => ((hb84.alloc o).cell 0).trans rfl
  have hgl3 : g q < w3.heap.size := by omega
  clear hf3
  go_upto_region 6 with fail
  have hS4 := hS3.set2 hi0 (o := none) rfl
  rw [hp] at hS4
  obtain ⟨w4, hw4⟩ : ∃ w4 : World, w4 = (w3.setCell ⟨g q, i0 * 3 + 1, none⟩ (.string ⟨#[]⟩)).setCell ⟨g q, i0 * 3 + 1 + 1, none⟩ (.string ⟨#[]⟩) := ⟨_, rfl⟩
  have hne82 : g q ≠ w.heap.size := by omega
  have hne84 : g q ≠ w.heap.size + 1 := by omega
  have hb82' : Blk w4 w.heap.size #[.string docS, .string s1, .string s2] 82 := by rw [hw4]; exact (hb82.setOther (by exact hne82) _).setOther (by exact hne82) _
  have hb84' : Blk w4 (w.heap.size + 1) #[.slice (some ⟨g q, 0, none⟩) (S q).length (cap q), .int .i64 H] 84 := by rw [hw4]; exact (hb84.setOther (by exact hne84) _).setOther (by exact hne84) _
  have hS4' : Sz w4 (g q) (cap q) (hole1 (S q) i0 p) := by rw [hw4]; exact hS4
  have hfw4 : Fr (fun k => k = g q) w w4 := by rw [hw4]; exact (hfw3.setCell (Or.inr rfl) _).setCell (Or.inr rfl) _
  have hsz4 : w4.heap.size = w3.heap.size := by rw [hw4]; simp
  rw [← hw4]
  rw [← hsz4] at hsz3 ⊢
  have y1 := fun o => ((hb84'.alloc o).cell 1).trans rfl
  have yf := fun o => ((hb84'.alloc o).frozen 1)
  have hlt4 : w.heap.size + 1 < w4.heap.size := by omega
  clear hw4 hb82 hb84 hfw3 hS3 hS4 hbw hcs z1 z2 f1 f2 k0 hgl3 hsz4
  go_upto_region 7 with fail
  obtain ⟨w5, hw5⟩ : ∃ w5 : World, w5 = (w4.setCell ⟨w.heap.size + 1, 1, none⟩ (.int .i64 ((H : Int) + 1))).alloc (.cells #[.string ⟨#[]⟩, .string ⟨#[]⟩] 50) := ⟨_, rfl⟩
  have hb82 : Blk w5 w.heap.size #[.string docS, .string s1, .string s2] 82 := by rw [hw5]; exact (hb82'.setOther (by simp) _).alloc _
  have hb84 : Blk w5 (w.heap.size + 1) #[.slice (some ⟨g q, 0, none⟩) (S q).length (cap q), .int .i64 ((H : Int) + 1)] 84 := by
    rw [hw5]
    exact (hb84'.setSame 1 _).alloc _
  have hb50 : Blk w5 w4.heap.size #[.string ⟨#[]⟩, .string ⟨#[]⟩] 50 := by rw [hw5]; exact Blk.new _ _ _ _ (by simp)
  have hS5 : Sz w5 (g q) (cap q) (hole1 (S q) i0 p) := by
    rw [hw5]
    exact (hS4'.fr ((Fr.refl (fun k => k = w.heap.size + 1) _).setCell (Or.inr rfl) _) hne84).fr ((Fr.refl (fun _ => False) _).alloc _) (fun s => s)
  have hfw5 : Fr (fun k => k = g q) w w5 := by rw [hw5]; exact (hfw4.setCell (Or.inl (by simp)) _).alloc _
  rw [← hw5]
  clear hw5 hb82' hb84' hS4' hfw4 y1 yf
  have hmg : ¬ mb = g q := fun e => by
    obtain ⟨cur', hb', _⟩ := own_blk hown
    exact mf_ne a hb' e.symm
  have hm5 := a.fr hfw5 hmg
  have r0 := (hb82.cell 0).trans rfl
  have r1 := (hb82.cell 1).trans rfl
  have r2 := (hb82.cell 2).trans rfl
  have k0 := (hb84.cell 0).trans rfl
  have k1 := (hb84.cell 1).trans rfl
  have kf := hb84.frozen
  have hlv := holes_live (hole1 (S q) i0 p)
  rw [hcnt, asc_hole_len] at hlv
  by_cases hA : H + 1 = (S q).length
  · have fin := fun (w6 : World) (hm : Mf 4 erV w6 mb (L.filter (fun x => decide (x ≠ q))) V) (hf6 : Fr (fun k => k = mb) w5 w6) => er_del a b c d hqL hfw5 hm hf6
    have hl0 : live (hole1 (S q) i0 p) = [] := List.eq_nil_of_length_eq_zero (by omega)
    clear hfw5 hS5 hb50 hb82 hb84 hown hSz hlook c d b h
    go_wp2_with (at_delete; refine wpList_del _ rfl _ _ 64 rfl kok82 Yba.underlying64 rfl hm5 hq hkey.symm ?_)
    intro w6 hm6 hf6
    have F := fin w6 (by simpa using hm6) hf6
    clear fin hm6 hf6 hm5
    go_wp2
    refine bodyPost_ret (results_none rfl _ _ _) rfl ?_
    exact ⟨rfl, [], F.1, F.2, hl0.symm, List.nil_sublist _, fun e => absurd rfl e⟩
  · have hA' : ¬ ((H : Int) + 1 = (S q).length) := by omega
    by_cases hB : (S q).length < 2 * (H + 1)
    · have hB' : ((S q).length : Int) < 2 * ((H : Int) + 1) := by omega
      have HD := delf (lo := lo) hS5 hb50 (by rw [asc_hole_len]; exact hlen) hlo (by rw [asc_hole_len]; exact hcap) hmx (by omega)
      rw [asc_hole_len] at HD
      have hne0 : live (hole1 (S q) i0 p) ≠ [] := fun e => by rw [e] at hlv; simp at hlv; omega
      have hh0 := holes_live0 (hole1 (S q) i0 p)
      have hll := live_live (hole1 (S q) i0 p)
      have hsub : (live (hole1 (S q) i0 p)).Sublist (hole1 (S q) i0 p) := List.filter_sublist
      generalize hU : live (hole1 (S q) i0 p) = U at *
      have fin := fun (w6 w7 w8 : World) (h67 : Fr (fun k => k = g q) w w7) (hown6 : w7.ownsRow lo 76 3 (.slice (some ⟨g q, 0, none⟩) U.length (cap q)) U.length (flat U)) (hm : Mf 4 erV w8 mb (putK L q) (putV V q (.agg #[.slice (some ⟨g q, 0, none⟩) U.length (cap q), .int .i64 0]))) (hf6 : Fr (fun k => k = mb) w7 w8) =>
        er_put a b c d hq (T := U) (ob := some (g q)) (g2 := g q) (cp2 := cap q) hne0 (fun k hk => ⟨hqL, (Option.some.inj hk).symm⟩) (h67.mono (fun k hk => by rw [hk])) hown6 (Or.inl rfl) (by rw [hh0]; simpa using hm) hf6
      clear hb50 hlook hS5 c d b h hown hSz hh0
      go_upto_region 12 with (go_at_call 33; refine HD.mono ?_; rintro r w6 ⟨rfl, hown6, hf6⟩; have hb84 := hf6.blk hb84 (fun e => hne84 e.symm); have hb82 := hf6.blk hb82 (fun e => hne82 e.symm); have r0 := (hb82.cell 0).trans rfl; have r1 := (hb82.cell 1).trans rfl; have r2 := (hb82.cell 2).trans rfl; have k0 := (hb84.cell 0).trans rfl; have k1 := (hb84.cell 1).trans rfl; have kf := hb84.frozen; have hlt6 := hb84.lt)
      obtain ⟨w7, hw7⟩ : ∃ w7 : World, w7 = (w6.setCell ⟨w.heap.size + 1, 0, none⟩ (.slice (some ⟨g q, 0, none⟩) U.length (cap q))).setCell ⟨w.heap.size + 1, 1, none⟩ (.int .i64 0) := ⟨_, rfl⟩
      have hb82' : Blk w7 w.heap.size #[.string docS, .string s1, .string s2] 82 := by rw [hw7]; exact (hb82.setOther (by simp) _).setOther (by simp) _
      have hb84' : Blk w7 (w.heap.size + 1) #[.slice (some ⟨g q, 0, none⟩) U.length (cap q), .int .i64 0] 84 := by
        rw [hw7]
        exact (hb84.setSame 0 _).setSame 1 _
      have hfw7 : Fr (fun k => k = g q) w w7 := by rw [hw7]; exact ((hfw5.trans hf6).setCell (Or.inl (by simp)) _).setCell (Or.inl (by simp)) _
      have hown7 : w7.ownsRow lo 76 3 (.slice (some ⟨g q, 0, none⟩) U.length (cap q)) U.length (flat U) := by
        rw [hw7]
        have hn : (Value.slice (some ⟨g q, 0, none⟩) U.length (cap q)).ownBlock ≠ some (w.heap.size + 1) := by simp [Value.ownBlock, hne84]
        exact own_set (own_set hown6 (by exact hn) _) (by exact hn) _
      rw [← hw7]
      have hm7 := a.fr hfw7 hmg
      have F7 := fun w8 hm hf => fin w6 w7 w8 hfw7 hown7 hm hf
      clear hw7 hb82 hb84 hown6 hf6 hfw7 hown7 fin hfw5 hm5 HD
      have r0 := (hb82'.cell 0).trans rfl
      have r1 := (hb82'.cell 1).trans rfl
      have r2 := (hb82'.cell 2).trans rfl
      have k0 := (hb84'.cell 0).trans rfl
      have k1 := (hb84'.cell 1).trans rfl
      go_wp2_with (at_mapUpdate; refine wpList_put _ rfl _ _ _ 64 rfl kok82 Yba.underlying64 rfl hm7 hq hkey.symm rfl ?_)
      intro w8 hm8 hf8
      have F := F7 w8 hm8 hf8
      clear F7 hm8 hf8 hm7
      go_wp2
      go_end0
      exact ⟨rfl, _, F.1, F.2, hll.trans hU.symm, hsub, fun _ e => hne0 (by rw [← hll]; exact e)⟩
    · have hB' : ¬ ((S q).length : Int) < 2 * ((H : Int) + 1) := by omega
      have hown5 := hS5.own (n := (S q).length) hlo (asc_hole_len _ _ _).symm hcap hmx
      have fin := fun (w6 : World) (hm : Mf 4 erV w6 mb (putK L q) (putV V q (.agg #[.slice (some ⟨g q, 0, none⟩) (S q).length (cap q), .int .i64 ((H : Int) + 1)]))) (hf6 : Fr (fun k => k = mb) w5 w6) =>
        er_put a b c d hq (T := hole1 (S q) i0 p) (ob := some (g q)) (g2 := g q) (cp2 := cap q) (by intro e; have := congrArg List.length e; rw [asc_hole_len] at this; simp at this; rw [this] at hi0; simp at hi0) (fun k hk => ⟨hqL, (Option.some.inj hk).symm⟩) (hfw5.mono (fun k hk => by rw [hk])) (by rw [asc_hole_len]; exact hown5) (Or.inl rfl) (by rw [hcnt, asc_hole_len]; simpa using hm) hf6
      clear hfw5 hS5 hb50 hb82 hb84 hown hSz hlook c d b h hown5
      go_wp2_with (at_mapUpdate; refine wpList_put _ rfl _ _ _ 64 rfl kok82 Yba.underlying64 rfl hm5 hq hkey.symm rfl ?_)
      intro w6 hm6 hf6
      have F := fin w6 hm6 hf6
      clear fin hm6 hf6 hm5
      go_wp2
      go_end0
      exact ⟨rfl, _, F.1, F.2, rfl, List.Sublist.refl _, fun _ e => by rw [e] at hlv; simp at hlv; omega⟩

end Go.Proofs.Ybulkomi
