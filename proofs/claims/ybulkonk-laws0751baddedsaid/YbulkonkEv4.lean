/-
  task.Events: pending, Pending.
-/
import Derived.Test.YbulkonkEv3
namespace Go.Proofs.Ybulkonk
open Go.RowKit Go.MuLone

theorem Rw.grow {F : Nat → Bool} {eb : Nat → Nat} {evb lo : Nat} {E : List Nat} {lk : Int} {v : Value} {w w' : World} (h : Rw F eb evb lo E lk v w) (hg : w.grownBy w' none) : Rw F eb evb lo E lk v w' ∧ Tr evb v v w w' := by
  have hf : Fr (fun k => k = evb ∨ v.ownBlock = some k) w w' := (Fr.refl _ _).grown hg (fun k hk => by cases hk)
  have hf0 : Fr (fun _ => False) w w' := (Fr.refl _ _).grown hg (fun k hk => by cases hk)
  refine ⟨⟨hf0.blk h.ev (fun s => s), hf0.own h.own (fun _ _ s => s), fun x hx => ?_, Nat.le_trans h.lo hf0.size⟩, ⟨hf, fun k hk => Or.inl hk⟩⟩
  obtain ⟨c, hc, hf⟩ := h.tab x hx
  exact ⟨c, hf0.blk hc (fun s => s), hf⟩

/-- append(nil, nothing...) -/
theorem wpList_append_none {P : Program} (w : World) {ops : Array Oper} {rest : List Oper} {o : Oper} {a : Act} {Q : Exit → Act → World → Prop}
    (hg : o.guard = none) (s x : Operand) (t : TypeId) (hop : o.op = Op.call { callee := Callee.builtin Builtin.append, args := #[s, x], argTypes := #[t, t] })
    {e : TypeId} {z : Value} {bytes : Nat} (ht : P.underlying t = some (.slice e)) (hinfo : (P.info? e).map (fun i => (i.zero, i.size, i.bytes)) = some (some z, 1, bytes))
    (hs : a.eval s = .slice none 0 0) {ao : Option Addr} {c : Nat} (hx : a.eval x = .slice ao 0 c)
    (hK : wpList P ops Q rest (a.put o.dst (.slice none 0 0)) w) : wpList P ops Q (o :: rest) a w := by
  refine wpList_plain hg fun K hK' => ?_
  obtain ⟨i, hi, _, _, _⟩ := info_parts hinfo
  have hr : (Builtin.append_ #[t, t] o.type #[.slice none 0 0, .slice ao 0 c]).run P w = .ok (.slice none 0 0) w := by
    cases ao <;> simp [Builtin.append_, run_underlying ht, sizeOf, typeInfo, hi, Builtin.lenOf, Builtin.firstCells, loadCells, loadCellsFrom]
  unfold Oper.wp
  simp [execOp, hop, resolve, invoke, builtin, hs, hx, hr, Result.andThen]
  exact hK' _ _ hK

set_option maxHeartbeats 1000000 in
theorem Pending_any {F : Nat → Bool} {eb : Nat → Nat} {evb lo : Nat} {E : List Nat} {v : Value} {w : World} (h : Rw F eb evb lo E 0 v w) :
    Calls Yba.prog 18 #[.pointer (some ⟨evb, 0, none⟩)] w fun r w' => r = .returned (.int .i64 ((E.filter (fun x => !F x)).length : Nat)) ∧ ∃ v', Rw F eb evb lo (E.filter (fun x => !F x)) 0 v' w' ∧ Tr evb v v' w w' := by
  obtain ⟨h1, t1⟩ := h.lock 1
  have c0 := h.ev.cell 0
  have f0 := h.ev.frozen 0
  simp [evsC] at c0
  go_enter_defers Yba.func18, Yba.ntmps18
  go_wp2_with (go_at_call 11; refine (lock_free Yba.muLib ⟨evb, 0, none⟩ _ c0 f0).mono ?_; rintro e w' ⟨rfl, rfl⟩)
  refine (prune_any h1).mono ?_
  rintro r w2 ⟨rfl, v2, h2, t2⟩
  obtain ⟨ao2, cp2, hv, _⟩ := own_shape h2.own
  subst hv
  have d2 := h2.ev.cell 2
  simp [evsC] at d2
  obtain ⟨h4, t4⟩ := h2.lock 0
  go_wp2
  refine leaves_cons (f := 12) (args := #[.pointer (some ⟨evb, 0, none⟩)]) (by simp) (by simp [go_sem]) ?_
  refine (unlock_deferred Yba.muLib ⟨evb, 0, none⟩ .returning _ (h2.ev.cell 0) (h2.ev.frozen 0)).mono ?_
  rintro e u' w'' ⟨rfl, rfl, rfl⟩
  refine ⟨_, results_tmp rfl _ _ _, rfl, ?_⟩
  exact ⟨_, h4, t1.trans (t2.trans t4)⟩

set_option maxHeartbeats 1000000 in
theorem pending_any {F : Nat → Bool} {eb : Nat → Nat} {evb lo : Nat} {E : List Nat} {v : Value} {w : World} (h : Rw F eb evb lo E 0 v w) (hE : E.length ≤ 4096) {U : List Nat} (hU : E.filter (fun x => !F x) = U) :
    Calls Yba.prog 23 #[.pointer (some ⟨evb, 0, none⟩)] w fun r w' => ∃ v', Rw F eb evb lo U 0 v' w' ∧ Tr evb v v' w w' ∧
      ((r = .returned (.slice none 0 0) ∧ U = []) ∨
       (∃ g cap, r = .returned (.slice (some ⟨g, 0, none⟩) U.length cap) ∧ 0 < U.length ∧ EvRow eb U g w' ∧ v'.ownBlock ≠ some g)) := by
  obtain ⟨h1, t1⟩ := h.lock 1
  have c0 := h.ev.cell 0
  have f0 := h.ev.frozen 0
  simp [evsC] at c0
  go_enter_defers Yba.func23, Yba.ntmps23
  go_wp2_with (go_at_call 11; refine (lock_free Yba.muLib ⟨evb, 0, none⟩ _ c0 f0).mono ?_; rintro e w' ⟨rfl, rfl⟩)
  refine (prune_any h1).mono ?_
  rintro r w2 ⟨rfl, v2, h2, t2⟩
  have hle := List.length_filter_le (fun x => !F x) E
  rw [hU] at h2 hle
  obtain ⟨ao2, cp2, hv, hnn⟩ := own_shape h2.own
  subst hv
  have d2 := h2.ev.cell 2
  simp [evsC] at d2
  by_cases hU0 : U = []
  · subst hU0
    obtain ⟨h4, t4⟩ := h2.lock 0
    simp at d2
    go_wp2_with (at_builtin; refine wpList_append_none _ rfl _ _ 49 rfl Yba.underlying49 info85 rfl rfl ?_)
    go_wp2
    refine leaves_cons (f := 12) (args := #[.pointer (some ⟨evb, 0, none⟩)]) (by simp) (by simp [go_sem]) ?_
    refine (unlock_deferred Yba.muLib ⟨evb, 0, none⟩ .returning _ (h2.ev.cell 0) (h2.ev.frozen 0)).mono ?_
    rintro e u' w'' ⟨rfl, rfl, rfl⟩
    refine ⟨_, results_tmp rfl _ _ _, _, h4, t1.trans (t2.trans t4), rfl⟩
  · have hpos : 0 < U.length := List.length_pos_iff.2 hU0
    obtain ⟨g2, rfl, hg2⟩ := hnn hpos
    have hcells : ∀ j u, (U.map (evv eb))[j]? = some u → w2.cell? ((⟨g2, 0, none⟩ : Addr).add j) = some u := by
      intro j u hu
      obtain ⟨cur, hcur, _, _, _, htk⟩ := own_blk h2.own
      have hj : j < U.length := by
        have := (List.getElem?_eq_some_iff.1 hu).1
        simpa using this
      refine cell_row hcur ?_
      rw [← Array.getElem?_toList]
      rw [← htk, List.getElem?_take_of_lt (by simpa using hj)] at hu
      exact hu
    go_wp2_with (at_builtin; refine wpList_appendN _ rfl _ _ 49 rfl Yba.underlying49 info85 rfl rfl (World.ownsRow_nil w2 w2.heap.size 85 1) (Nat.le_refl _) (ad := ⟨g2, 0, none⟩) rfl hpos (ys := U.map (evv eb)) ?c1 hcells (evs_one eb U) ?c3 ?c4 ?_)
    case c1 => simp
    case c3 => unfold maxLen; omega
    case c4 => omega
    intro g3 cap3 w3 hA
    obtain ⟨h3, t3⟩ := h2.grow hA.grown
    obtain ⟨h4, t4⟩ := h3.lock 0
    have hA3 := hA.own
    simp only [Nat.zero_add, List.nil_append] at hA3
    obtain ⟨cur3, hcur3, hg3, _, _, htk3⟩ := own_blk hA3
    have hlt2 := h2.own.lt g2 rfl
    have hrow : EvRow eb U g3 w3 := ⟨cur3, hcur3, fun j u hu => by
      have hj : j < U.length := by
        have := (List.getElem?_eq_some_iff.1 hu).1
        simpa using this
      rw [← Array.getElem?_toList]
      rw [← htk3, List.getElem?_take_of_lt (by simpa using hj)] at hu
      exact hu⟩
    have hng : (Value.slice (some ⟨g2, 0, none⟩) U.length cp2).ownBlock ≠ some g3 := by
      simp [Value.ownBlock]; omega
    obtain ⟨hrow4, hng4⟩ := EvRow.turn t4 h3.ev hrow hng
    clear hA hcells
    go_wp2
    refine leaves_cons (f := 12) (args := #[.pointer (some ⟨evb, 0, none⟩)]) (by simp) (by simp [go_sem]) ?_
    refine (unlock_deferred Yba.muLib ⟨evb, 0, none⟩ .returning _ (h3.ev.cell 0) (h3.ev.frozen 0)).mono ?_
    rintro e u' w'' ⟨rfl, rfl, rfl⟩
    refine ⟨_, results_tmp rfl _ _ _, _, h4, t1.trans (t2.trans (t3.trans t4)), Or.inr ⟨g3, cap3, by simp, hpos, hrow4, hng4⟩⟩

end Go.Proofs.Ybulkonk
