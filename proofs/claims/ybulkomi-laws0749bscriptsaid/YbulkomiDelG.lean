/-
  Plain laws on the slots: the live ones, one turned; clearing part of a row.
-/
import Derived.Test.YbulkomiIdxF
namespace Go.Proofs.Ybulkomi
open Go.RowKit

def live (S : List Slot) : List Slot := S.filter (fun s => s.2.isSome)
theorem live_le (S : List Slot) : (live S).length ≤ S.length := List.length_filter_le _ _
theorem live_succ (S : List Slot) {j : Nat} (hj : j < S.length) : live (S.take (j + 1)) = live (S.take j) ++ (if S[j].2.isSome then [S[j]] else []) := by
  rw [List.take_succ_eq_append_getElem hj]
  unfold live
  rw [List.filter_append]
  congr 1
  cases h : S[j].2.isSome <;> simp [h]
theorem holes_live (S : List Slot) : holes S + (live S).length = S.length := by
  induction S with
  | nil => rfl
  | cons s t ih =>
    unfold holes live at *
    rcases s with ⟨p, _ | k⟩ <;> simp <;> omega
theorem live_all {S : List Slot} (h : ∀ s ∈ S, s.2.isSome = true) : live S = S := List.filter_eq_self.2 h
theorem live_live (S : List Slot) : live (live S) = live S := live_all (fun _ hs => (List.mem_filter.1 hs).2)
theorem holes_live0 (S : List Slot) : holes (live S) = 0 := by
  have := holes_live (live S)
  rw [live_live] at this
  omega

theorem flat_cons (s : Slot) (T : List Slot) : flat (s :: T) = slC s ++ flat T := by simp [flat]
theorem flat_set3 (T : List Slot) : ∀ (i : Nat) (s : Slot) (a b c : Value), slC s = [a, b, c] → i < T.length → (((flat T).set (i * 3) a).set (i * 3 + 1) b).set (i * 3 + 2) c = flat (T.set i s) := by
  induction T with
  | nil => intro i s a b c _ h; simp at h
  | cons t T ih =>
    intro i s a b c hs hi
    obtain ⟨x, y, ht⟩ := slC_shape t
    cases i with
    | zero => simp [flat_cons, hs, ht]
    | succ i =>
      simp at hi
      simp only [List.set_cons_succ, flat_cons, ht, List.cons_append, List.nil_append]
      rw [show (i + 1) * 3 = i * 3 + 1 + 1 + 1 by omega]
      simp only [show ∀ n : Nat, i * 3 + 1 + 1 + 1 + n = i * 3 + n + 1 + 1 + 1 by intro n; omega, List.set_cons_succ]
      rw [ih i s a b c hs hi]
theorem flat_set2 (T : List Slot) : ∀ (i : Nat) (o : Option Nat) (b c : Value) (hi : i < T.length), subC o = [b, c] → (((flat T).set (i * 3 + 1) b).set (i * 3 + 2) c) = flat (T.set i (T[i].1, o)) := by
  induction T with
  | nil => intro i s a b h; simp at h
  | cons t T ih =>
    intro i o b c hi hs
    obtain ⟨x, y, ht⟩ := slC_shape t
    cases i with
    | zero => simp [flat_cons, slC, hs, sub_of_sl ht]
    | succ i =>
      simp at hi
      simp only [List.set_cons_succ, flat_cons, ht, List.cons_append, List.nil_append, List.getElem_cons_succ]
      rw [show (i + 1) * 3 = i * 3 + 1 + 1 + 1 by omega]
      simp only [List.set_cons_succ]
      rw [ih i o b c hi hs]
theorem flat_take (T : List Slot) (i : Nat) (hi : i ≤ T.length) : (flat T).take (i * 3) = flat (T.take i) := by
  conv => lhs; rw [← List.take_append_drop i T, flat_append]
  rw [List.take_append_of_le_length (by rw [flat_len, List.length_take]; omega), List.take_of_length_le (by rw [flat_len, List.length_take]; omega)]

/-- The slots in a block of a given size. -/
def Sz (w : World) (g cap : Nat) (S : List Slot) : Prop := ∃ cur, Blk w g cur 76 ∧ cur.size = cap * 3 ∧ cur.toList.take (S.length * 3) = flat S
theorem Sz.sl {w : World} {g cap : Nat} {S : List Slot} (h : Sz w g cap S) : Sl w g S := by
  obtain ⟨cur, a, _, b⟩ := h
  exact ⟨cur, a, b⟩
theorem Sz.fr {w w' : World} {g cap : Nat} {S : List Slot} (h : Sz w g cap S) {T : Nat → Prop} (hf : Fr T w w') (hn : ¬ T g) : Sz w' g cap S := by
  obtain ⟨cur, hb, ht⟩ := h
  exact ⟨cur, hf.blk hb hn, ht⟩
theorem Sz.set3 {w : World} {g cap : Nat} {S : List Slot} (h : Sz w g cap S) {i : Nat} {s : Slot} {a b c : Value} (hs : slC s = [a, b, c]) (hi : i < S.length) : Sz (((w.setCell ⟨g, i * 3, none⟩ a).setCell ⟨g, i * 3 + 1, none⟩ b).setCell ⟨g, i * 3 + 2, none⟩ c) g cap (S.set i s) := by
  obtain ⟨cur, hb, hz, ht⟩ := h
  refine ⟨_, ((hb.setSame _ _).setSame _ _).setSame _ _, by simpa using hz, ?_⟩
  simp only [Array.toList_setIfInBounds, List.length_set, List.take_set]
  rw [ht]
  exact flat_set3 S i s a b c hs hi
theorem Sz.set2 {w : World} {g cap : Nat} {S : List Slot} (h : Sz w g cap S) {i : Nat} (hi : i < S.length) {o : Option Nat} {b c : Value} (hs : subC o = [b, c]) : Sz ((w.setCell ⟨g, i * 3 + 1, none⟩ b).setCell ⟨g, i * 3 + 2, none⟩ c) g cap (S.set i (S[i].1, o)) := by
  obtain ⟨cur, hb, hz, ht⟩ := h
  refine ⟨_, (hb.setSame _ _).setSame _ _, by simpa using hz, ?_⟩
  simp only [Array.toList_setIfInBounds, List.length_set, List.take_set]
  rw [ht]
  exact flat_set2 S i o b c hi hs
theorem Sz.own {w : World} {g cap : Nat} {S : List Slot} (h : Sz w g cap S) {lo n : Nat} (hlo : lo ≤ g) (hn : n = S.length) (hc : n ≤ cap) (hm : cap ≤ maxLen) : w.ownsRow lo 76 3 (.slice (some ⟨g, 0, none⟩) n cap) n (flat S) := by
  subst hn
  obtain ⟨cur, hb, hz, ht⟩ := h
  exact ⟨flat_len S, Or.inr ⟨g, cap, cur, rfl, hlo, hb, hc, hm, hz, ht⟩⟩
theorem own_sz {w : World} {lo g n cap : Nat} {S : List Slot} (h : w.ownsRow lo 76 3 (.slice (some ⟨g, 0, none⟩) n cap) n (flat S)) (hn : n = S.length) : Sz w g cap S ∧ lo ≤ g ∧ n ≤ cap ∧ cap ≤ maxLen := by
  subst hn
  obtain ⟨cur, hb, h1, h2, h3, h4, h5⟩ := own_blk h
  exact ⟨⟨cur, hb, h4, h5⟩, h1, h2, h3⟩

/-- the first hole -/
theorem first_hole {S : List Slot} (h : 0 < holes S) : ∃ i0, ∃ hi : i0 < S.length, S[i0].2.isNone = true ∧ (∀ j, j < i0 → ∀ (hj : j < S.length), S[j].2.isNone = false) ∧ live (S.take i0) = S.take i0 := by
  have hex : ∃ s ∈ S, s.2.isNone = true := by
    unfold holes at h
    obtain ⟨s, hs⟩ := List.exists_mem_of_length_pos h
    exact ⟨s, List.mem_filter.1 hs⟩
  have hlt : S.findIdx (fun s => s.2.isNone) < S.length := List.findIdx_lt_length_of_exists hex
  have hbef : ∀ j, j < S.findIdx (fun s => s.2.isNone) → ∀ (hj : j < S.length), S[j].2.isNone = false := fun j hj hj' => by
    have := List.not_of_lt_findIdx hj
    simpa using this
  refine ⟨_, hlt, List.findIdx_getElem (w := hlt), hbef, ?_⟩
  refine live_all (fun s hs => ?_)
  obtain ⟨i, hi, rfl⟩ := List.mem_iff_getElem.1 hs
  simp at hi
  rw [List.getElem_take]
  have := hbef i (by omega) (by omega)
  cases hc : S[i].2 with
  | none => rw [hc] at this; simp at this
  | some k => rfl

end Go.Proofs.Ybulkomi
