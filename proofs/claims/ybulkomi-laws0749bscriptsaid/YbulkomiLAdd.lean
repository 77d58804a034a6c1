/-
  subjectLists.add (of entities).
-/
import Derived.Test.YbulkomiSlots
namespace Go.Proofs.Ybulkomi
open Go.RowKit

def updS (S : Nat → List Slot) (q : Nat) (T : List Slot) : Nat → List Slot := fun r => if r = q then T else S r

theorem mf_ne {N : Nat} {K : Nat → Value} {w : World} {mb : Nat} {L : List Nat} {V : Nat → Value} (h : Mf N K w mb L V) {k : Nat} {c : Array Value} {t : TypeId} (hb : Blk w k c t) : k ≠ mb := by
  intro e
  subst e
  obtain ⟨es, cl, hm, _⟩ := h.obj
  unfold Blk at hb
  rw [hm] at hb
  simp at hb

/-- What the map gives at q: the slice and the count, whether the key is there or not. -/
theorem er_at {w : World} {lo : Nat} {S : Nat → List Slot} {L : List Nat} {V : Nat → Value} {g cap : Nat → Nat} (b : ∀ q, q ∈ L ↔ (q < 4 ∧ S q ≠ []))
    (c : ∀ q, q ∈ L → V q = .agg #[.slice (some ⟨g q, 0, none⟩) (S q).length (cap q), .int .i64 (holes (S q) : Nat)] ∧ w.ownsRow lo 76 3 (.slice (some ⟨g q, 0, none⟩) (S q).length (cap q)) (S q).length (flat (S q))) {q : Nat} (hq : q < 4) :
    ∃ ao cp, (if q ∈ L then V q else .agg #[.slice none 0 0, .int .i64 0]) = .agg #[.slice ao (S q).length cp, .int .i64 (holes (S q) : Nat)] ∧ w.ownsRow lo 76 3 (.slice ao (S q).length cp) (S q).length (flat (S q)) ∧ (∀ k, (Value.slice ao (S q).length cp).ownBlock = some k → q ∈ L ∧ k = g q) := by
  by_cases h : q ∈ L
  · refine ⟨some ⟨g q, 0, none⟩, cap q, by rw [if_pos h]; exact (c q h).1, (c q h).2, fun k hk => ⟨h, ?_⟩⟩
    simp [Value.ownBlock] at hk
    exact hk.symm
  · have h0 : S q = [] := Classical.byContradiction (fun e => h ((b q).2 ⟨hq, e⟩))
    refine ⟨none, 0, by rw [if_neg h, h0]; rfl, by rw [h0]; exact World.ownsRow_nil _ _ _ _, fun k hk => by simp [Value.ownBlock] at hk⟩

/-- A new value laid at q. -/
theorem er_put {w w3 w4 : World} {mb lo : Nat} {S : Nat → List Slot} {L : List Nat} {V : Nat → Value} {g cap : Nat → Nat} (a : Mf 4 erV w mb L V) (b : ∀ q, q ∈ L ↔ (q < 4 ∧ S q ≠ []))
    (c : ∀ q, q ∈ L → V q = .agg #[.slice (some ⟨g q, 0, none⟩) (S q).length (cap q), .int .i64 (holes (S q) : Nat)] ∧ w.ownsRow lo 76 3 (.slice (some ⟨g q, 0, none⟩) (S q).length (cap q)) (S q).length (flat (S q)))
    (d : ∀ q r, q ∈ L → r ∈ L → g q = g r → q = r) {q : Nat} (hq : q < 4) {T : List Slot} (hT : T ≠ []) {g2 cp2 : Nat} {ob : Option Nat} (hob : ∀ k, ob = some k → q ∈ L ∧ k = g q) (hf : Fr (fun k => ob = some k) w w3) (hown : w3.ownsRow lo 76 3 (.slice (some ⟨g2, 0, none⟩) T.length cp2) T.length (flat T)) (hw : ob = some g2 ∨ w.heap.size ≤ g2)
    (hm : Mf 4 erV w4 mb (putK L q) (putV V q (.agg #[.slice (some ⟨g2, 0, none⟩) T.length cp2, .int .i64 (holes T : Nat)]))) (hf4 : Fr (fun k => k = mb) w3 w4) : ER w4 mb lo (updS S q T) ∧ FE mb lo w w4 := by
  have hsz := hf.size
  have hg2 : ∀ r, r ∈ L → g r = g2 → r = q := fun r hr e => by
    rcases hw with h1 | h1
    · obtain ⟨h2, h3⟩ := hob g2 h1
      exact d r q hr h2 (e.trans h3)
    · obtain ⟨cur, hb, _⟩ := own_blk (c r hr).2
      have := hb.lt
      omega
  have hmem : ∀ r, r ∈ putK L q ↔ (r ∈ L ∨ r = q) := fun r => by
    unfold putK
    by_cases h : q ∈ L
    · rw [if_pos h]
      exact ⟨Or.inl, fun e => e.elim id (fun e => e ▸ h)⟩
    · rw [if_neg h]; simp
  have hmb3 : ∀ k cur t, Blk w3 k cur t → k ≠ mb := fun k cur t hb e => by
    subst e
    have hlt := a.ltb
    obtain ⟨es, cl, hob', _⟩ := a.obj
    have : ¬ ob = some k := fun e => by
      obtain ⟨h2, h3⟩ := hob k e
      obtain ⟨cur', hb', _⟩ := own_blk (c q h2).2
      rw [← h3] at hb'
      exact mf_ne a hb' rfl
    have h5 := hf.block k hlt this
    unfold Blk at hb
    rw [h5, hob'] at hb
    simp at hb
  refine ⟨⟨putK L q, _, fun r => if r = q then g2 else g r, fun r => if r = q then cp2 else cap r, hm, fun r => ?_, fun r hr => ?_, fun r s hr hs e => ?_⟩, ?_⟩
  · rw [hmem, b]
    unfold updS
    by_cases e : r = q
    · simp [e, hq, hT]
    · simp [e]
  · by_cases e : r = q
    · subst e
      refine ⟨by simp [putV, updS], ?_⟩
      simp only [updS, if_true]
      refine hf4.own hown (fun k hk => ?_)
      simp [Value.ownBlock] at hk
      subst hk
      obtain ⟨cur, hb, _⟩ := own_blk hown
      exact hmb3 _ cur _ hb
    · have hrL : r ∈ L := ((hmem r).1 hr).resolve_right e
      refine ⟨by simp [putV, updS, e, (c r hrL).1], ?_⟩
      simp only [updS, if_neg e]
      have ho := (c r hrL).2
      have ho3 := hf.own ho (fun k hk s => by
        simp [Value.ownBlock] at hk
        subst hk
        obtain ⟨h2, h3⟩ := hob _ s
        exact e (d r q hrL h2 h3))
      refine hf4.own ho3 (fun k hk => ?_)
      simp [Value.ownBlock] at hk
      subst hk
      obtain ⟨cur, hb, _⟩ := own_blk ho3
      exact hmb3 _ cur _ hb
  · by_cases e1 : r = q <;> by_cases e2 : s = q
    · rw [e1, e2]
    · have hsL : s ∈ L := ((hmem s).1 hs).resolve_right e2
      simp only [e1, e2, if_true, if_false] at e
      exact absurd (hg2 s hsL e.symm) e2
    · have hrL : r ∈ L := ((hmem r).1 hr).resolve_right e1
      simp only [e1, e2, if_true, if_false] at e
      exact absurd (hg2 r hrL e) e1
    · have hrL : r ∈ L := ((hmem r).1 hr).resolve_right e1
      have hsL : s ∈ L := ((hmem s).1 hs).resolve_right e2
      simp only [e1, e2, if_false] at e
      exact d r s hrL hsL e
  · refine ((hf.mono (fun k hk => Or.inr ?_)).trans' hf4 (fun i _ e => Or.inl e))
    obtain ⟨h2, h3⟩ := hob k hk
    obtain ⟨cur, hb, hl, _⟩ := own_blk (c q h2).2
    exact ⟨h3 ▸ hl, cur, h3 ▸ hb⟩

set_option maxHeartbeats 2000000 in
theorem ladd_any {w : World} {mb lo : Nat} {S : Nat → List Slot} (h : ER w mb lo S) (hlo : lo ≤ w.heap.size) {q : Nat} (hq : q < 4) (p k : Nat) (hlen : (S q).length ≤ 100000) :
    Calls Yba.prog 24 #[.map (some mb), erV q, .int .u64 p, .agg #[.string userS, .string (bidS (k / 4 % 2))]] w fun r w' => r = .returned (.tuple #[]) ∧ ER w' mb lo (updS S q (S q ++ [(p, some k)])) ∧ FE mb lo w w' := by
  obtain ⟨L, V, g, cap, a, b, c, d⟩ := h.rep
  obtain ⟨ao, cp, hat, hown, hob⟩ := er_at b c hq
  have hlook : ∀ o1 o2, (Instr.lookup 64 (.map (some mb)) (erV q) false).run Yba.prog ((w.alloc o1).alloc o2) = .ok (.agg #[.slice ao (S q).length cp, .int .i64 (holes (S q) : Nat)]) ((w.alloc o1).alloc o2) := fun o1 o2 => by
    have := (a.fr (((Fr.refl (fun _ => False) w).alloc o1).alloc o2) (fun s => s)).look kok82 Yba.underlying64 z84 hq false
    rw [hat] at this
    simpa using this
  have hkey : erV q = .agg #[.string docS, .string (bidS (q % 2)), .string (rnS (q / 2 % 2))] := rfl
  have hsub : slC (p, some k) = [.int .u64 p, .string userS, .string (bidS (k / 4 % 2))] := rfl
  rw [hkey] at hlook
  rw [hkey]
  generalize hs1 : bidS (q % 2) = s1 at *
  generalize hs2 : rnS (q / 2 % 2) = s2 at *
  generalize bidS (k / 4 % 2) = s4 at *
  generalize hH : holes (S q) = H at *
  go_enter Yba.func24, Yba.ntmps24
  go_wp2_with (at_builtin; refine wpList_append1 _ rfl _ _ 73 rfl Yba.underlying73 info76 rfl (by omega) rfl ((((hown.alloc _).alloc _).alloc _).alloc _) ?c1 (ad := ⟨w.heap.size + 1 + 1 + 1, 0, none⟩) (c := 1) rfl (ys := slC (p, some k)) (slC_len _) ?c2 (slC_one _) ?c3 ?c4 ?_)
  case c1 => simp; omega
  case c2 =>
    intro j u hu
    rw [hsub] at hu
    exact cell_row (Blk.new _ _ _ _ (by simp)) (by simpa using hu)
  case c3 => unfold maxLen; omega
  case c4 => omega
  intro g2 cp2 w2 hA
  have hol : ∀ x, (Value.slice ao (S q).length cp).ownBlock = some x → x < w.heap.size := fun x hx => (hown.lt x hx).2
  have hb1 : Blk w2 w.heap.size #[.string docS, .string s1, .string s2] 82 := hA.blk ((((Blk.new w _ 82 _ rfl).alloc _).alloc _).alloc _) (fun e => by have := hol _ e; omega)
  have hb3 : Blk w2 (w.heap.size + 1 + 1) #[.slice ao (S q).length cp, .int .i64 H] 84 := hA.blk ((Blk.new _ _ 84 _ (by simp)).alloc _) (fun e => by have := hol _ e; omega)
  have hfr2 : Fr (fun x => (Value.slice ao (S q).length cp).ownBlock = some x) w w2 := (((((Fr.refl _ w).alloc _).alloc _).alloc _).alloc _).grown hA.grown (fun x hx => Or.inr hx)
  have hfr3 : Fr (fun x => (Value.slice ao (S q).length cp).ownBlock = some x) w (w2.setCell ⟨w.heap.size + 1 + 1, 0, none⟩ (.slice (some ⟨g2, 0, none⟩) ((S q).length + 1) cp2)) := hfr2.setCell (Or.inl (by simp; omega)) _
  have hne : ¬ (Value.slice ao (S q).length cp).ownBlock = some mb := fun e => by
    obtain ⟨h2, h3⟩ := hob mb e
    obtain ⟨cur', hb', _⟩ := own_blk (c q h2).2
    rw [← h3] at hb'
    exact mf_ne a hb' rfl
  have hm3 := a.fr hfr3 hne
  have hown3 : (w2.setCell ⟨w.heap.size + 1 + 1, 0, none⟩ (.slice (some ⟨g2, 0, none⟩) ((S q).length + 1) cp2)).ownsRow lo 76 3 (.slice (some ⟨g2, 0, none⟩) (S q ++ [(p, some k)]).length cp2) (S q ++ [(p, some k)]).length (flat (S q ++ [(p, some k)])) := by
    have h1 := own_set (a := ⟨w.heap.size + 1 + 1, 0, none⟩) hA.own (own_ne hA.own hb3 (by decide)) (.slice (some ⟨g2, 0, none⟩) ((S q).length + 1) cp2)
    rw [flat_append]
    simpa [flat, hsub] using h1
  have hwh : (Value.slice ao (S q).length cp).ownBlock = some g2 ∨ w.heap.size ≤ g2 := by
    obtain ⟨g', cap', he, hw⟩ := hA.where_
    simp at he
    obtain ⟨rfl, _⟩ := he
    rcases hw with hw | hw
    · exact Or.inl hw
    · right; simp at hw; omega
  have hho : holes (S q ++ [(p, some k)]) = H := by rw [← hH]; simp [holes]
  have fin := fun (w4 : World) (hm : Mf 4 erV w4 mb (putK L q) (putV V q (.agg #[.slice (some ⟨g2, 0, none⟩) ((S q).length + 1) cp2, .int .i64 (H : Nat)]))) (hf4 : Fr (fun k => k = mb) (w2.setCell ⟨w.heap.size + 1 + 1, 0, none⟩ (.slice (some ⟨g2, 0, none⟩) ((S q).length + 1) cp2)) w4) =>
    er_put a b c d hq (T := S q ++ [(p, some k)]) (by simp) hob hfr3 hown3 hwh (by rw [hho]; simpa using hm) hf4
  have k0 := hb3.cell 0
  have k1 := hb3.cell 1
  have kf := hb3.frozen 0
  have r0 := hb1.cell 0
  have r1 := hb1.cell 1
  have r2 := hb1.cell 2
  simp at k0 k1 r0 r1 r2
  clear hA hfr2 hfr3 hown3 hwh hown hob hb1 hb3 hho hsub hlook c d b h hol
  go_wp2_with (at_mapUpdate; refine wpList_put _ rfl _ _ _ 64 rfl kok82 Yba.underlying64 rfl hm3 hq hkey.symm rfl ?_)
  intro w4 hm4 hf4
  have F := fin w4 hm4 hf4
  clear fin hm4 hf4 hm3
  go_wp2
  go_end0
  exact ⟨rfl, F⟩

end Go.Proofs.Ybulkomi
