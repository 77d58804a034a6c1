/-
  task.Events: Add, pending, Pending.
-/
import Derived.Test.YbulkonkEv2
namespace Go.Proofs.Ybulkonk
open Go.RowKit Go.MuLone

/-- The set: the lock's word lk, the events E. -/
structure Rw (F : Nat → Bool) (eb : Nat → Nat) (evb lo : Nat) (E : List Nat) (lk : Int) (v : Value) (w : World) : Prop where
  ev : Blk w evb (evsC lk v) 51
  own : w.ownsRow lo 85 1 v E.length (E.map (evv eb))
  tab : ∀ x ∈ E, ∃ c, Blk w (eb x) c 59 ∧ c[1]? = some (.bool (F x))
  lo : lo ≤ w.heap.size

/-- Only the set's own block and its row have turned. -/
structure Tr (evb : Nat) (v v' : Value) (w w' : World) : Prop where
  fr : Fr (fun k => k = evb ∨ v.ownBlock = some k) w w'
  nw : ∀ k, v'.ownBlock = some k → v.ownBlock = some k ∨ w.heap.size ≤ k

theorem Tr.trans {evb : Nat} {v v' v'' : Value} {a b c : World} (h : Tr evb v v' a b) (k : Tr evb v' v'' b c) : Tr evb v v'' a c := by
  refine ⟨h.fr.trans' k.fr (fun i hi t => ?_), fun i hi => ?_⟩
  · rcases t with t | t
    · exact Or.inl t
    · rcases h.nw i t with t | t
      · exact Or.inr t
      · omega
  · rcases k.nw i hi with t | t
    · exact h.nw i t
    · exact Or.inr (Nat.le_trans h.fr.size t)

theorem Rw.lock {F : Nat → Bool} {eb : Nat → Nat} {evb lo : Nat} {E : List Nat} {lk : Int} {v : Value} {w : World} (h : Rw F eb evb lo E lk v w) (q : Int) : Rw F eb evb lo E q v (w.setCell ⟨evb, 0, none⟩ (.int .i32 q)) ∧ Tr evb v v w (w.setCell ⟨evb, 0, none⟩ (.int .i32 q)) := by
  have hne := own_ne h.own h.ev (by decide)
  refine ⟨⟨h.ev.setSame 0 _, own_set h.own hne _, fun x hx => ?_, by simpa using h.lo⟩, ⟨(Fr.refl _ _).setCell (Or.inr (Or.inl rfl)) _, fun k hk => Or.inl hk⟩⟩
  obtain ⟨c, hc, hf⟩ := h.tab x hx
  refine ⟨c, hc.setOther ?_ _, hf⟩
  intro e
  have e' : evb = eb x := e
  have := h.ev
  rw [e'] at this
  unfold Blk at this hc
  rw [hc] at this
  simp at this

theorem Rw.drewN {F : Nat → Bool} {eb : Nat → Nat} {evb lo : Nat} {E : List Nat} {lk : Int} {v : Value} {w : World} (h : Rw F eb evb lo E lk v w) (n : Nat) : Rw F eb evb lo E lk v (w.drewN n) := ⟨h.ev, h.own, h.tab, h.lo⟩
theorem Tr.drewN {evb : Nat} {v v' : Value} {w w' : World} (h : Tr evb v v' w w') (n : Nat) : Tr evb v v' w (w'.drewN n) := ⟨h.fr.drewN n, h.nw⟩

theorem cell_row {w : World} {g : Nat} {cy : Array Value} {t : TypeId} (h : Blk w g cy t) {j : Nat} {u : Value} (hc : cy[j]? = some u) : w.cell? ((⟨g, 0, none⟩ : Addr).add j) = some u := by
  have := (h.cell j).trans hc
  by_cases hj : j = 0
  · subst hj; simpa [Addr.add] using this
  · simpa [Addr.add, hj] using this

theorem Tr.blk {evb : Nat} {v v' : Value} {w w' : World} (h : Tr evb v v' w w') {k : Nat} {c : Array Value} {t : TypeId} (hb : Blk w k c t) (h1 : k ≠ evb) (h2 : v.ownBlock ≠ some k) : Blk w' k c t := h.fr.blk hb (fun s => s.elim h1 h2)

theorem blk_ne {w : World} {i j : Nat} {c d : Array Value} {s t : TypeId} (h : Blk w i c s) (k : Blk w j d t) (ht : s ≠ t) : i ≠ j := by
  intro e; subst e; unfold Blk at h k; rw [h] at k; simp at k; exact ht k.2

/-- Behind a turn a block of an event is as it was. -/
theorem Tr.evb {F : Nat → Bool} {eb : Nat → Nat} {evb lo : Nat} {E : List Nat} {lk : Int} {v v' : Value} {w w' : World} (h : Tr evb v v' w w') (r : Rw F eb evb lo E lk v w) {k : Nat} {c : Array Value} {t : TypeId} (hb : Blk w k c t) (h1 : t ≠ 51) (h2 : t ≠ 85) : Blk w' k c t :=
  h.blk hb (blk_ne hb r.ev h1) (own_ne r.own hb h2)

theorem prune_any {F : Nat → Bool} {eb : Nat → Nat} {evb lo : Nat} {E : List Nat} {lk : Int} {v : Value} {w : World} (h : Rw F eb evb lo E lk v w) :
    Calls Yba.prog 22 #[.pointer (some ⟨evb, 0, none⟩)] w fun r w' => r = .returned (.tuple #[]) ∧ ∃ v', Rw F eb evb lo (E.filter (fun x => !F x)) lk v' w' ∧ Tr evb v v' w w' := by
  have key : ∀ v' w', Pd F E eb evb lo lk v v' w w' → Rw F eb evb lo (E.filter (fun x => !F x)) lk v' w' ∧ Tr evb v v' w w' := by
    intro v' w' hp
    have ht : Tr evb v v' w w' := ⟨hp.fr, fun k hk => Or.inl (hp.same ▸ hk)⟩
    refine ⟨⟨hp.ev, hp.own, fun x hx => ?_, Nat.le_trans h.lo hp.fr.size⟩, ht⟩
    obtain ⟨c, hc, hf⟩ := h.tab x (List.mem_filter.1 hx).1
    exact ⟨c, ht.evb h hc (by decide) (by decide), hf⟩
  have ho := h.own
  rcases ho.2 with ⟨hv, h0⟩ | ⟨g, cap, cur, hv, _⟩
  · have hE : E = [] := List.eq_nil_of_length_eq_zero h0
    subst hE
    subst hv
    refine (prune_nil F eb evb lo lk w h.ev).mono ?_
    rintro r w' ⟨rfl, hp⟩
    exact ⟨rfl, _, key _ _ hp⟩
  · subst hv
    refine (prune_row F E eb evb lo g cap lk w h.ev ho h.tab).mono ?_
    rintro r w' ⟨rfl, v', hp⟩
    exact ⟨rfl, v', key _ _ hp⟩

theorem cons_rw {F : Nat → Bool} {eb : Nat → Nat} {evb lo : Nat} {E ys : List Nat} {lk : Int} {v v' : Value} {w w' : World} (h : Rw F eb evb lo E lk v w) (hA : AppN lo 85 w w' v v' E.length ys.length (E.map (evv eb)) (ys.map (evv eb))) (hy : ∀ x ∈ ys, ∃ c, Blk w (eb x) c 59 ∧ c[1]? = some (.bool (F x))) :
    Rw F eb evb lo (E ++ ys) lk v' (w'.setCell ⟨evb, 2, none⟩ v') ∧ Tr evb v v' w (w'.setCell ⟨evb, 2, none⟩ v') := by
  have hne := own_ne h.own h.ev (by decide)
  have hev' := hA.blk h.ev hne
  have hne' := own_ne hA.own hev' (by decide)
  have ht : Tr evb v v' w (w'.setCell ⟨evb, 2, none⟩ v') := by
    refine ⟨((Fr.refl (fun k => k = evb ∨ v.ownBlock = some k) w).grown hA.grown (fun k hk => Or.inr (Or.inr hk))).setCell (p := ⟨evb, 2, none⟩) (Or.inr (Or.inl rfl)) v', fun k hk => ?_⟩
    obtain ⟨g, cap, rfl, hw⟩ := hA.where_
    simp [Value.ownBlock] at hk
    subst hk
    exact hw
  refine ⟨⟨hev'.setSame 2 _, ?_, fun x hx => ?_, Nat.le_trans h.lo ht.fr.size⟩, ht⟩
  · have := own_set (a := ⟨evb, 2, none⟩) hA.own hne' v'
    simpa using this
  · obtain ⟨c, hc, hf⟩ : ∃ c, Blk w (eb x) c 59 ∧ c[1]? = some (.bool (F x)) := by
      rcases List.mem_append.1 hx with hx | hx
      · exact h.tab x hx
      · exact hy x hx
    exact ⟨c, ht.evb h hc (by decide) (by decide), hf⟩

theorem evs_one (eb : Nat → Nat) (E : List Nat) : ∀ u ∈ E.map (evv eb), u.oneCell' = true := by
  intro u hu
  obtain ⟨x, _, rfl⟩ := List.mem_map.1 hu
  rfl

/-- the cells of a row of events -/
def EvRow (eb : Nat → Nat) (ys : List Nat) (g : Nat) (w : World) : Prop := ∃ cy : Array Value, Blk w g cy 85 ∧ ∀ (j : Nat) (u : Value), (ys.map (evv eb))[j]? = some u → cy[j]? = some u

theorem EvRow.turn {evb : Nat} {v v' : Value} {w w' : World} (h : Tr evb v v' w w') {lk : Int} (hev : Blk w evb (evsC lk v) 51) {eb : Nat → Nat} {ys : List Nat} {g : Nat} (hr : EvRow eb ys g w) (hne : v.ownBlock ≠ some g) : EvRow eb ys g w' ∧ v'.ownBlock ≠ some g := by
  obtain ⟨cy, hb, hc⟩ := hr
  refine ⟨⟨cy, h.blk hb (blk_ne hb hev (by decide)) hne, hc⟩, fun e => ?_⟩
  rcases h.nw g e with h1 | h1
  · exact hne h1
  · have := hb.lt
    omega

set_option maxHeartbeats 1000000 in
theorem add_any {F : Nat → Bool} {eb : Nat → Nat} {evb lo : Nat} {E ys : List Nat} {v : Value} {w : World} (h : Rw F eb evb lo E 0 v w) (hE : E.length ≤ 4096) {g c : Nat} (hr : EvRow eb ys g w) (hne : v.ownBlock ≠ some g) (hy0 : 0 < ys.length) (hy : ys.length ≤ 4096) (hty : ∀ x ∈ ys, ∃ c, Blk w (eb x) c 59 ∧ c[1]? = some (.bool (F x))) :
    Calls Yba.prog 13 #[.pointer (some ⟨evb, 0, none⟩), .slice (some ⟨g, 0, none⟩) ys.length c] w fun r w' => r = .returned (.tuple #[]) ∧ ∃ v' E', Rw F eb evb lo (E' ++ ys) 0 v' w' ∧ Tr evb v v' w w' ∧ (E' = E ∨ E' = E.filter (fun x => !F x)) := by
  -- the tail: append, store, unlock
  obtain ⟨h1, t1⟩ := h.lock 1
  have c0 := h.ev.cell 0
  have f0 := h.ev.frozen 0
  simp [evsC] at c0
  obtain ⟨hr1, hn1⟩ := EvRow.turn t1 h.ev hr hne
  have hty1 : ∀ x ∈ ys, ∃ c, Blk (w.setCell ⟨evb, 0, none⟩ (.int .i32 1)) (eb x) c 59 ∧ c[1]? = some (.bool (F x)) := fun x hx => by
    obtain ⟨c, hc, hf⟩ := hty x hx
    exact ⟨c, t1.evb h hc (by decide) (by decide), hf⟩
  obtain ⟨ao, cp, hv, _⟩ := own_shape h1.own
  subst hv
  have c2 := h1.ev.cell 2
  simp [evsC] at c2
  go_enter_defers Yba.func13, Yba.ntmps13
  go_wp2_with (go_at_call 11; refine (lock_free Yba.muLib ⟨evb, 0, none⟩ _ c0 f0).mono ?_; rintro e w' ⟨rfl, rfl⟩)
  obtain ⟨w1, hw1⟩ : ∃ w1 : World, w1 = w.setCell ⟨evb, 0, none⟩ (.int .i32 1) := ⟨_, rfl⟩
  rw [← hw1] at c2 h1 t1 hr1 hty1 ⊢
  clear hw1 c0 f0 hr hne hty
  have hcap : cp ≤ maxLen := by
    rcases h1.own.2 with ⟨hv, _⟩ | ⟨g', cap', cur, hv, _, _, _, hcm, _⟩
    · simp at hv; omega
    · simp at hv; omega
  unfold maxLen at hcap
  by_cases hgrow : cp < E.length + ys.length
  · go_quiet (fail)
    obtain ⟨wq, hwq⟩ : ∃ wq : World, wq = w1.drewN nq := ⟨_, rfl⟩
    replace h1 := h1.drewN nq
    replace t1 := t1.drewN nq
    replace hr1 : EvRow eb ys g (w1.drewN nq) := hr1
    replace hty1 : ∀ x ∈ ys, ∃ c, Blk (w1.drewN nq) (eb x) c 59 ∧ c[1]? = some (.bool (F x)) := hty1
    replace c2 : (w1.drewN nq).cell? ⟨evb, 2, none⟩ = some (.slice ao E.length cp) := c2
    rw [← hwq] at h1 t1 hr1 hty1 c2 ⊢
    clear hwq
    go_wp2_with fail
    refine (prune_any h1).mono ?_
    rintro r w2 ⟨rfl, v2, h2, t2⟩
    obtain ⟨⟨cy, hcy, hcc⟩, hn2⟩ := EvRow.turn t2 h1.ev hr1 hn1
    have hty2 : ∀ x ∈ ys, ∃ c, Blk w2 (eb x) c 59 ∧ c[1]? = some (.bool (F x)) := fun x hx => by
      obtain ⟨c, hc, hf⟩ := hty1 x hx
      exact ⟨c, t2.evb h1 hc (by decide) (by decide), hf⟩
    obtain ⟨ao2, cp2, hv, _⟩ := own_shape h2.own
    subst hv
    have hle := List.length_filter_le (fun x => !F x) E
    have d2 := h2.ev.cell 2
    simp [evsC] at d2
    clear c2 h1 hr1 hty1
    go_wp2_with (at_builtin; refine wpList_appendN _ rfl _ _ 49 rfl Yba.underlying49 info85 rfl rfl h2.own h2.lo (ad := ⟨g, 0, none⟩) rfl hy0 (ys := ys.map (evv eb)) ?c1 ?c2 (evs_one eb ys) ?c3 ?c4 ?_)
    case c1 => simp
    case c2 => intro j u hu; exact cell_row hcy (hcc j u hu)
    case c3 => unfold maxLen; omega
    case c4 => omega
    intro g3 cap3 w3 hA
    obtain ⟨h3, t3⟩ := cons_rw h2 hA hty2
    obtain ⟨h4, t4⟩ := h3.lock 0
    have hev' := hA.blk h2.ev (own_ne h2.own h2.ev (by decide))
    have k2 := hev'.cell 2
    have kf := hev'.frozen 2
    simp [evsC] at k2
    clear hA hcc hcy
    go_wp2
    refine leaves_cons (f := 12) (args := #[.pointer (some ⟨evb, 0, none⟩)]) (by simp) (by simp [go_sem]) ?_
    refine (unlock_deferred Yba.muLib ⟨evb, 0, none⟩ .returning _ (h3.ev.cell 0) (h3.ev.frozen 0)).mono ?_
    rintro e u' w'' ⟨rfl, rfl, rfl⟩
    refine ⟨_, results_none rfl _ _ _, rfl, ?_⟩
    exact ⟨_, _, h4, t1.trans (t2.trans (t3.trans t4)), Or.inr rfl⟩
  · go_quiet (fail)
    obtain ⟨wq, hwq⟩ : ∃ wq : World, wq = w1.drewN nq := ⟨_, rfl⟩
    replace h1 := h1.drewN nq
    replace t1 := t1.drewN nq
    replace hr1 : EvRow eb ys g (w1.drewN nq) := hr1
    replace hty1 : ∀ x ∈ ys, ∃ c, Blk (w1.drewN nq) (eb x) c 59 ∧ c[1]? = some (.bool (F x)) := hty1
    replace c2 : (w1.drewN nq).cell? ⟨evb, 2, none⟩ = some (.slice ao E.length cp) := c2
    rw [← hwq] at h1 t1 hr1 hty1 c2 ⊢
    clear hwq
    obtain ⟨cy, hcy, hcc⟩ := hr1
    go_wp2_with (at_builtin; refine wpList_appendN _ rfl _ _ 49 rfl Yba.underlying49 info85 rfl rfl h1.own h1.lo (ad := ⟨g, 0, none⟩) rfl hy0 (ys := ys.map (evv eb)) ?c1 ?c2 (evs_one eb ys) ?c3 ?c4 ?_)
    case c1 => simp
    case c2 => intro j u hu; exact cell_row hcy (hcc j u hu)
    case c3 => unfold maxLen; omega
    case c4 => omega
    intro g3 cap3 w3 hA
    obtain ⟨h3, t3⟩ := cons_rw h1 hA hty1
    obtain ⟨h4, t4⟩ := h3.lock 0
    have hev' := hA.blk h1.ev (own_ne h1.own h1.ev (by decide))
    have k2 := hev'.cell 2
    have kf := hev'.frozen 2
    simp [evsC] at k2
    clear hA hcc hcy
    go_wp2
    refine leaves_cons (f := 12) (args := #[.pointer (some ⟨evb, 0, none⟩)]) (by simp) (by simp [go_sem]) ?_
    refine (unlock_deferred Yba.muLib ⟨evb, 0, none⟩ .returning _ (h3.ev.cell 0) (h3.ev.frozen 0)).mono ?_
    rintro e u' w'' ⟨rfl, rfl, rfl⟩
    refine ⟨_, results_none rfl _ _ _, rfl, ?_⟩
    exact ⟨_, _, h4, t1.trans (t3.trans t4), Or.inl rfl⟩

end Go.Proofs.Ybulkonk
