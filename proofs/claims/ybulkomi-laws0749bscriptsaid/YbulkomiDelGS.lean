/-
  Plain laws on the slots: the live ones, one turned; clearing part of a row.
-/
import Derived.Test.YbulkomiIdxFS
namespace Go.Proofs.Ybulkomi.Sj
open Go.RowKit Go.Proofs.Ybulkomi

theorem flat_cons (s : Slot) (T : List Slot) : flat (s :: T) = slC s ++ flat T := by simp [flat]
theorem flat_set3 (T : List Slot) : ∀ (i : Nat) (s : Slot) (a b c e : Value), slC s = [a, b, c, e] → i < T.length → ((((flat T).set (i * 4) a).set (i * 4 + 1) b).set (i * 4 + 2) c).set (i * 4 + 3) e = flat (T.set i s) := by
  induction T with
  | nil => intro i s a b c e _ h; simp at h
  | cons t T ih =>
    intro i s a b c e hs hi
    obtain ⟨x, y, z, ht⟩ := slC_shape t
    cases i with
    | zero => simp [flat_cons, hs, ht]
    | succ i =>
      simp at hi
      simp only [List.set_cons_succ, flat_cons, ht, List.cons_append, List.nil_append]
      rw [show (i + 1) * 4 = i * 4 + 1 + 1 + 1 + 1 by omega]
      simp only [show ∀ n : Nat, i * 4 + 1 + 1 + 1 + 1 + n = i * 4 + n + 1 + 1 + 1 + 1 by intro n; omega, List.set_cons_succ]
      rw [ih i s a b c e hs hi]
theorem flat_set2 (T : List Slot) : ∀ (i : Nat) (o : Option Nat) (b c e : Value) (hi : i < T.length), subC o = [b, c, e] → (((flat T).set (i * 4 + 1) b).set (i * 4 + 2) c).set (i * 4 + 3) e = flat (T.set i (T[i].1, o)) := by
  induction T with
  | nil => intro i s a b c h; simp at h
  | cons t T ih =>
    intro i o b c e hi hs
    obtain ⟨x, y, z, ht⟩ := slC_shape t
    cases i with
    | zero => simp [flat_cons, slC, hs, sub_of_sl ht]
    | succ i =>
      simp at hi
      simp only [List.set_cons_succ, flat_cons, ht, List.cons_append, List.nil_append, List.getElem_cons_succ]
      rw [show (i + 1) * 4 = i * 4 + 1 + 1 + 1 + 1 by omega]
      simp only [List.set_cons_succ]
      rw [ih i o b c e hi hs]
theorem flat_take (T : List Slot) (i : Nat) (hi : i ≤ T.length) : (flat T).take (i * 4) = flat (T.take i) := by
  conv => lhs; rw [← List.take_append_drop i T, flat_append]
  rw [List.take_append_of_le_length (by rw [flat_len, List.length_take]; omega), List.take_of_length_le (by rw [flat_len, List.length_take]; omega)]

/-- The slots in a block of a given size. -/
def Sz (w : World) (g cap : Nat) (S : List Slot) : Prop := ∃ cur, Blk w g cur 78 ∧ cur.size = cap * 4 ∧ cur.toList.take (S.length * 4) = flat S
theorem Sz.sl {w : World} {g cap : Nat} {S : List Slot} (h : Sz w g cap S) : Sl w g S := by
  obtain ⟨cur, a, _, b⟩ := h
  exact ⟨cur, a, b⟩
theorem Sz.fr {w w' : World} {g cap : Nat} {S : List Slot} (h : Sz w g cap S) {T : Nat → Prop} (hf : Fr T w w') (hn : ¬ T g) : Sz w' g cap S := by
  obtain ⟨cur, hb, ht⟩ := h
  exact ⟨cur, hf.blk hb hn, ht⟩
theorem Sz.set3 {w : World} {g cap : Nat} {S : List Slot} (h : Sz w g cap S) {i : Nat} {s : Slot} {a b c e : Value} (hs : slC s = [a, b, c, e]) (hi : i < S.length) : Sz ((((w.setCell ⟨g, i * 4, none⟩ a).setCell ⟨g, i * 4 + 1, none⟩ b).setCell ⟨g, i * 4 + 2, none⟩ c).setCell ⟨g, i * 4 + 3, none⟩ e) g cap (S.set i s) := by
  obtain ⟨cur, hb, hz, ht⟩ := h
  refine ⟨_, (((hb.setSame _ _).setSame _ _).setSame _ _).setSame _ _, by simpa using hz, ?_⟩
  simp only [Array.toList_setIfInBounds, List.length_set, List.take_set]
  rw [ht]
  exact flat_set3 S i s a b c e hs hi
theorem Sz.set2 {w : World} {g cap : Nat} {S : List Slot} (h : Sz w g cap S) {i : Nat} (hi : i < S.length) {o : Option Nat} {b c e : Value} (hs : subC o = [b, c, e]) : Sz (((w.setCell ⟨g, i * 4 + 1, none⟩ b).setCell ⟨g, i * 4 + 2, none⟩ c).setCell ⟨g, i * 4 + 3, none⟩ e) g cap (S.set i (S[i].1, o)) := by
  obtain ⟨cur, hb, hz, ht⟩ := h
  refine ⟨_, ((hb.setSame _ _).setSame _ _).setSame _ _, by simpa using hz, ?_⟩
  simp only [Array.toList_setIfInBounds, List.length_set, List.take_set]
  rw [ht]
  exact flat_set2 S i o b c e hi hs
theorem Sz.own {w : World} {g cap : Nat} {S : List Slot} (h : Sz w g cap S) {lo n : Nat} (hlo : lo ≤ g) (hn : n = S.length) (hc : n ≤ cap) (hm : cap ≤ maxLen) : w.ownsRow lo 78 4 (.slice (some ⟨g, 0, none⟩) n cap) n (flat S) := by
  subst hn
  obtain ⟨cur, hb, hz, ht⟩ := h
  exact ⟨flat_len S, Or.inr ⟨g, cap, cur, rfl, hlo, hb, hc, hm, hz, ht⟩⟩
theorem own_sz {w : World} {lo g n cap : Nat} {S : List Slot} (h : w.ownsRow lo 78 4 (.slice (some ⟨g, 0, none⟩) n cap) n (flat S)) (hn : n = S.length) : Sz w g cap S ∧ lo ≤ g ∧ n ≤ cap ∧ cap ≤ maxLen := by
  subst hn
  obtain ⟨cur, hb, h1, h2, h3, h4, h5⟩ := own_blk h
  exact ⟨⟨cur, hb, h4, h5⟩, h1, h2, h3⟩

end Go.Proofs.Ybulkomi.Sj
