/-
  The slots of one relation (of subject sets): a row of cells; the map of them.
-/
import Derived.Test.YbulkomiLRem
namespace Go.Proofs.Ybulkomi.Sj
open Go.RowKit Go.Proofs.Ybulkomi

/-- the subject's cells; a slot's cells -/
def subC : Option Nat → List Value
  | none => [.string ⟨#[]⟩, .string ⟨#[]⟩, .string ⟨#[]⟩]
  | some k => [.string userS, .string (bidS (k / 4 % 2)), .string ⟨#[109]⟩]
def slC (s : Slot) : List Value := .int .u64 s.1 :: subC s.2
theorem slC_len (s : Slot) : (slC s).length = 4 := by rcases s with ⟨p, _ | k⟩ <;> rfl
def flat (S : List Slot) : List Value := S.flatMap slC
theorem flat_len (S : List Slot) : (flat S).length = S.length * 4 := by
  induction S with
  | nil => rfl
  | cons s t ih => simp only [flat, List.flatMap_cons, List.length_append, slC_len, List.length_cons] at *; omega
theorem flat_append (S T : List Slot) : flat (S ++ T) = flat S ++ flat T := by simp [flat]
theorem flat_at (S : List Slot) : ∀ (i : Nat) (s : Slot), S[i]? = some s → ∀ j, j < 4 → (flat S)[i * 4 + j]? = (slC s)[j]? := by
  induction S with
  | nil => intro i s h; simp at h
  | cons x t ih =>
    intro i s h j hj
    have hx := slC_len x
    simp only [flat, List.flatMap_cons]
    cases i with
    | zero =>
      simp at h
      subst h
      rw [List.getElem?_append_left (by omega)]
      simp
    | succ i =>
      simp at h
      rw [List.getElem?_append_right (by omega), show (i + 1) * 4 + j - (slC x).length = i * 4 + j by omega]
      exact ih i s h j hj
theorem slC_one (s : Slot) : ∀ u ∈ slC s, u.oneCell' = true := by
  intro u hu
  rcases s with ⟨p, _ | k⟩ <;> simp [slC, subC] at hu <;> rcases hu with rfl | rfl | rfl | rfl <;> rfl
theorem info78 : (Yba.prog.info? 78).map (fun i => (i.zero, i.size, i.bytes)) = some (some (.agg #[.int .u64 0, .string ⟨#[]⟩, .string ⟨#[]⟩, .string ⟨#[]⟩]), 4, 56) := by kernel_rfl
theorem z88 (w : World) : (zeroValue 88).run Yba.prog w = .ok (.agg #[.slice none 0 0, .int .i64 0]) w := by kernel_rfl

/-- Only the map mb and rows of slots have turned. -/
abbrev FE (mb lo : Nat) (w w' : World) : Prop := Fr (fun k => k = mb ∨ (lo ≤ k ∧ ∃ cur, Blk w k cur 78)) w w'
theorem FE.trans {mb lo : Nat} {a b c : World} (h : FE mb lo a b) (k : FE mb lo b c) : FE mb lo a c := by
  refine h.trans' k (fun i hi t => ?_)
  by_cases hs : i = mb ∨ (lo ≤ i ∧ ∃ cur, Blk a i cur 78)
  · exact hs
  · rcases t with t | ⟨hl, cur, t⟩
    · exact Or.inl t
    · have := h.block i hi hs
      exact Or.inr ⟨hl, cur, by unfold Blk at *; rw [← this]; exact t⟩
theorem FE.of0 {mb lo : Nat} {w w' : World} (h : Fr (fun _ => False) w w') : FE mb lo w w' := h.mono (fun _ s => s.elim)

/-- The lists of one kind. -/
structure ER (w : World) (mb lo : Nat) (S : Nat → List Slot) : Prop where
  rep : ∃ (L : List Nat) (V : Nat → Value) (g cap : Nat → Nat), Mf 4 erV w mb L V ∧ (∀ q, q ∈ L ↔ (q < 4 ∧ S q ≠ [])) ∧
    (∀ q, q ∈ L → V q = .agg #[.slice (some ⟨g q, 0, none⟩) (S q).length (cap q), .int .i64 (holes (S q) : Nat)] ∧ w.ownsRow lo 78 4 (.slice (some ⟨g q, 0, none⟩) (S q).length (cap q)) (S q).length (flat (S q))) ∧
    (∀ q r, q ∈ L → r ∈ L → g q = g r → q = r)

theorem ER.fr {w w' : World} {mb lo : Nat} {S : Nat → List Slot} (h : ER w mb lo S) {T : Nat → Prop} (hf : Fr T w w') (h1 : ¬ T mb) (h2 : ∀ k cur, Blk w k cur 78 → ¬ T k) : ER w' mb lo S := by
  obtain ⟨L, V, g, cap, a, b, c, d⟩ := h.rep
  refine ⟨L, V, g, cap, a.fr hf h1, b, fun q hq => ⟨(c q hq).1, ?_⟩, d⟩
  have ho := (c q hq).2
  obtain ⟨cur, hb, _⟩ := own_blk ho
  exact hf.own ho (fun k hk => by simp [Value.ownBlock] at hk; subst hk; exact h2 _ cur hb)

end Go.Proofs.Ybulkomi.Sj
