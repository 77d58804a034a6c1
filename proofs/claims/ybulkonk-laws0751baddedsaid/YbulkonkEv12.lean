/-
  LawS0751BAdded walked.
-/
import Derived.Test.YbulkonkEv11
namespace Go.Proofs.Ybulkonk
open Go.RowKit Go.MuLone

/-- At the first loop's head: j extras made. -/
structure X1 (B n : Nat) (ok F : Nat → Bool) (w : World) (j : Nat) (eb : Nat → Nat) (xv : Value) (wr : World) : Prop where
  st : St (cfO B ok) eb (fun x => n ≤ x ∧ x < n + j) F none [] [] (.slice none 0 0) wr
  own : wr.ownsRow B 85 1 xv j ((exs n j).map (evv eb))
  zero : j = 0 → xv = .slice none 0 0
  below : Below B w wr

theorem x1_start (w : World) (n : Nat) (ok F : Nat → Bool) : X1 w.heap.size n ok F w 0 (fun _ => 0) (.slice none 0 0) ((w.alloc (.cells #[.slice none 0 0] 48)).alloc (.cells #[.int .i32 0, .int .u32 0, .slice none 0 0] 51)) :=
  ⟨(stO_init w ok F).dom (fun x => by omega), World.ownsRow_nil _ _ _ _, fun _ => rfl, ((Below.refl _ _).alloc (Nat.le_refl _) _).alloc (by simp) _⟩

theorem x1_step {B n : Nat} {ok F : Nat → Bool} {w : World} {j : Nat} {eb : Nat → Nat} {xv : Value} {wr : World} (h : X1 B n ok F w j eb xv wr) {o1 o3 : Obj} {b : Nat} (hb : b = wr.heap.size + 1) {w2 : World} {xv' : Value}
    (hA : App B 85 (((wr.alloc o1).alloc (.cells (evC (n + j) (F (n + j)) (ok (n + j)) B (.slice none 0 0) (.pointer none)) 59)).alloc o3) w2 xv xv' j ((exs n j).map (evv eb)) (.iface 55 (.pointer (some ⟨b, 0, none⟩)))) : X1 B n ok F w (j + 1) (ebx eb (n + j) b) xv' w2 := by
  subst hb
  have hsz := h.below.size
  have h4 := h.st.l4
  have hf0 : Fr (fun _ => False) wr (((wr.alloc o1).alloc (.cells (evC (n + j) (F (n + j)) (ok (n + j)) B (.slice none 0 0) (.pointer none)) 59)).alloc o3) := (((Fr.refl _ _).alloc _).alloc _).alloc _
  have hbk : Blk (((wr.alloc o1).alloc (.cells (evC (n + j) (F (n + j)) (ok (n + j)) B (.slice none 0 0) (.pointer none)) 59)).alloc o3) (wr.heap.size + 1) (evC (n + j) (F (n + j)) (ok (n + j)) B (.slice none 0 0) (.pointer none)) 59 := (Blk.new _ _ _ _ (by simp)).alloc _
  have h1 := h.st.extend (sb' := none) hf0 (x := n + j) (b := wr.heap.size + 1) (by omega) (by omega) hbk (fun _ _ => rfl) (fun _ _ e => absurd rfl e) (Or.inl ⟨rfl, by simp⟩)
  have ho1 : (((wr.alloc o1).alloc (.cells (evC (n + j) (F (n + j)) (ok (n + j)) B (.slice none 0 0) (.pointer none)) 59)).alloc o3).ownsRow B 85 1 xv j ((exs n j).map (evv eb)) := hf0.own h.own (fun _ _ s => s)
  have hf1 : Fr (fun k => xv.ownBlock = some k) (((wr.alloc o1).alloc (.cells (evC (n + j) (F (n + j)) (ok (n + j)) B (.slice none 0 0) (.pointer none)) 59)).alloc o3) w2 := (Fr.refl _ _).grown hA.grown (fun k hk => Or.inr hk)
  have hS : ∀ k, xv.ownBlock = some k → ∃ cur, Blk (((wr.alloc o1).alloc (.cells (evC (n + j) (F (n + j)) (ok (n + j)) B (.slice none 0 0) (.pointer none)) 59)).alloc o3) k cur 85 := fun k hk => by
    rcases ho1.2 with ⟨rfl, _⟩ | ⟨g, cap, cur, rfl, _, hh, _⟩
    · simp [Value.ownBlock] at hk
    · simp [Value.ownBlock] at hk; subst hk; exact ⟨cur, hh⟩
  refine ⟨(h1.fr85 hf1 hS ⟨rfl, rfl⟩).dom (fun x => by omega), ?_, fun e => by omega, ?_⟩
  · have := hA.own
    rw [exs_succ, List.map_append, map_ebx (fun e => by have := exs_mem.1 e; omega)]
    simpa [evv, ebx] using this
  · have hsg := hA.grown.size
    simp at hsg
    refine ⟨hA.grown.os.trans h.below.os, hA.grown.tape.trans h.below.tape, hA.grown.output.trans h.below.output, by omega, fun q hq => ?_⟩
    have hq4 : B ≤ wr.heap.size := h4
    rw [hA.grown.block q (by simp; omega) (fun e => by have := (ho1.lt q e.symm).1; omega), Below.heap_alloc _ _ _ (by simp; omega), Below.heap_alloc _ _ _ (by simp; omega), Below.heap_alloc _ _ _ (by omega)]
    exact h.below.block q hq

/-- Between the loops. -/
theorem x1_turn {B n m : Nat} {ok F : Nat → Bool} {w : World} {eb : Nat → Nat} {xv : Value} {wr : World} (h : X1 B n ok F w m eb xv wr) : St (cfA B n m ok F xv) eb (fun x => x < 0 ∨ (n ≤ x ∧ x < n + m)) F none [] [] (.slice none 0 0) wr := by
  refine (h.st.recfg (c' := cfA B n m ok F xv) rfl rfl rfl rfl (fun x hx => ?_) ?_ (fun x hx => exs_mem.1 hx)).dom (fun x => by omega)
  · have hx' : ¬ x < n := by omega
    simp [cfA, cfO, hx']
  · rcases Nat.eq_zero_or_pos m with h0 | h0
    · subst h0
      exact Or.inl ⟨h.zero rfl, rfl⟩
    · refine Or.inr ⟨by simpa [cfA, exs_len] using h0, ?_⟩
      obtain ⟨ao, cap, rfl, hg⟩ := own_shape h.own
      obtain ⟨g, rfl, _⟩ := hg h0
      refine ⟨g, cap, by simp [cfA, exs_len], ?_, by simp [Value.ownBlock]⟩
      obtain ⟨cur, hcur, _, _, _, htk⟩ := own_blk h.own
      refine ⟨cur, hcur, fun j u hu => ?_⟩
      have hu' : ((exs n m).map (evv eb))[j]? = some u := hu
      have hj : j < m := by
        have := (List.getElem?_eq_some_iff.1 hu').1
        simpa [exs_len] using this
      rw [← htk, List.getElem?_take_of_lt hj] at hu'
      rw [← Array.getElem?_toList]
      exact hu'

/-- At the second loop's head: k items made. -/
structure X2 (B n m : Nat) (ok F : Nat → Bool) (w : World) (xv : Value) (k : Nat) (eb : Nat → Nat) (v : Value) (wr : World) : Prop where
  st : St (cfA B n m ok F xv) eb (fun x => x < k ∨ (n ≤ x ∧ x < n + m)) F (who F k) (List.range k) [] v wr
  below : Below B w wr

theorem X2.lt {B n m : Nat} {ok F : Nat → Bool} {w : World} {xv : Value} {k : Nat} {eb : Nat → Nat} {v : Value} {wr : World} (h : X2 B n m ok F w xv k eb v wr) : ∀ q, v.ownBlock = some q → q < wr.heap.size := fun q hq => by
  obtain ⟨E, ho, _⟩ := h.st.own
  exact (ho.lt q hq).2

/-- What one event's cells hold: by whether it brings the extras. -/
def spA (F : Nat → Bool) (xv : Value) (k : Nat) : Value := if frst F k then xv else .slice none 0 0
def inA (F : Nat → Bool) (B k : Nat) : Value := if frst F k then .pointer (some ⟨B + 1, 0, none⟩) else .pointer none

/-- Item k is made, and added. -/
theorem x2_add {B n m : Nat} {ok F : Nat → Bool} {w : World} {xv : Value} {k : Nat} {eb : Nat → Nat} {v : Value} {wr : World} (h : X2 B n m ok F w xv k eb v wr) (hk : k < n) (hn : n ≤ 1024) {W : World} (hf0 : Fr (fun _ => False) wr W) {b g : Nat} (hb : b = wr.heap.size + 1) (hbk : Blk W b (evC k (F k) (ok k) B (spA F xv k) (inA F B k)) 59) (hg : wr.heap.size ≤ g) (hgb : Blk W g #[.iface 55 (.pointer (some ⟨b, 0, none⟩))] 85) :
    Calls Yba.prog 13 #[.pointer (some ⟨B + 1, 0, none⟩), .slice (some ⟨g, 0, none⟩) 1 1] W fun r w' => r = .returned (.tuple #[]) ∧ ∃ eb' v', X2 B n m ok F w xv (k + 1) eb' v' w' := by
  have hlt := h.lt
  have hws := who_succ F k
  have hwk : ∀ y, who F k = some y → y < k := fun y hy => (who_lt hy).1
  have hsb : who F (k + 1) = if frst F k then some k else who F k := by
    rw [hws]
    unfold frst
    cases hw : who F k <;> cases hF : F k <;> simp
  have hbk' : Blk W b (evC k (F k) ((cfA B n m ok F xv).ok k) (cfA B n m ok F xv).lgb (spv (cfA B n m ok F xv) (who F (k + 1)) k) ((cfA B n m ok F xv).inn k)) 59 := by
    have e1 : spv (cfA B n m ok F xv) (who F (k + 1)) k = spA F xv k := by
      unfold spv spA
      rw [hsb]
      cases hfr : frst F k with
      | true => simp [cfA]
      | false =>
        simp
        intro e
        have := hwk k e
        omega
    have e2 : (cfA B n m ok F xv).inn k = inA F B k := by simp [cfA, inA, hk]
    rw [e1, e2]
    exact hbk
  have hex := h.st.extend (sb' := who F (k + 1)) hf0 (x := k) (b := b) (by omega) (by omega) hbk' (fun y hy => ?_) (fun y hy e => ?_) ?_
  · have HA := add_st (cap := 1) (ys := [k]) hex (by simp; omega) (evrow1 hgb) (fun e => by have := hlt _ e; omega) (by simp) (by simp) (fun x hx => Or.inr (by simpa using hx))
    refine HA.mono ?_
    rintro r w2 ⟨rfl, v2, h2, ch2⟩
    refine ⟨rfl, ebx eb k b, v2, ⟨?_, ?_⟩⟩
    · rw [List.range_succ]
      exact h2.dom (fun x => by omega)
    · have hb3 : Below B W w2 := ch2.below
      have h4 : B ≤ wr.heap.size := h.st.l4
      exact ⟨hb3.os.trans (hf0.os.trans h.below.os), hb3.tape.trans (hf0.tape.trans h.below.tape), hb3.output.trans (hf0.output.trans h.below.output), Nat.le_trans h.below.size (Nat.le_trans hf0.size hb3.size), fun q hq => (hb3.block q hq).trans ((hf0.block q (by omega) (fun s => s)).trans (h.below.block q hq))⟩
  · have hyk : y ≠ k := by omega
    unfold spv
    rw [hsb]
    cases hfr : frst F k with
    | true =>
      have hnone : who F k = none := by
        unfold frst at hfr
        cases hw : who F k with
        | none => rfl
        | some z => rw [hw] at hfr; simp at hfr
      simp [hnone, Ne.symm hyk]
    | false => simp
  · rw [hsb] at e ⊢
    cases hfr : frst F k with
    | true => simp; omega
    | false => rw [hfr] at e; simp at e
  · cases hfr : frst F k with
    | true => exact Or.inr (by simp [cfA, hk, hfr])
    | false =>
      refine Or.inl ⟨by simp [cfA, hk, hfr], ?_⟩
      rw [hsb, hfr]
      simp
      intro e
      have := hwk k e
      omega

end Go.Proofs.Ybulkonk
