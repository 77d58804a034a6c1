/-
  The script law: what its seventh loop turns; bits.
-/
import Derived.Test.YbulkomiLaw0
namespace Go.Proofs.Ybulkomi
open Go.RowKit

/-- the two arrays, rows of ints -/
def T7 (B pb lb : Nat) (ws : World) (k : Nat) : Prop := k = pb ∨ k = lb ∨ (B ≤ k ∧ ∃ cur, Blk ws k cur 3)
theorem T7_ge {B pb lb : Nat} {ws : World} (h1 : B ≤ pb) (h2 : B ≤ lb) : ∀ k, T7 B pb lb ws k → B ≤ k := by
  rintro k (e | e | ⟨e, _⟩)
  · omega
  · omega
  · exact e
/-- the log's own block -/
theorem T7_row {B pb lb : Nat} {ws wr : World} (hf : Fr (T7 B pb lb ws) ws wr) {n : Nat} {v : Value} {xs : List Value} (h : wr.ownsRow B 3 1 v n xs) : ∀ k, v.ownBlock = some k → ws.heap.size ≤ k ∨ T7 B pb lb ws k := by
  intro k hk
  rcases h.2 with ⟨rfl, _⟩ | ⟨g, cap, cur, rfl, hg, hh, _⟩
  · simp [Value.ownBlock] at hk
  · simp [Value.ownBlock] at hk
    subst hk
    by_cases hlt : g < ws.heap.size
    · by_cases ht : T7 B pb lb ws g
      · exact Or.inr ht
      · have := hf.block g hlt ht
        exact Or.inr (Or.inr (Or.inr ⟨hg, cur, by unfold Blk; rw [← this]; exact hh⟩))
    · exact Or.inl (by omega)
theorem T7_turn {B pb lb : Nat} {ws : World} {c1 c2 : Array Value} (h1 : Blk ws pb c1 40) (h2 : Blk ws lb c2 41) : ∀ k, TurnO (ws.heap[k]?) → ¬ T7 B pb lb ws k := by
  rintro k ht (rfl | rfl | ⟨_, cur, hb⟩)
  · exact no_turn h1 (by decide) (by decide) (by decide) ht
  · exact no_turn h2 (by decide) (by decide) (by decide) ht
  · exact no_turn hb (by decide) (by decide) (by decide) ht

theorem app_other {lo lo0 lo2 sz sz2 : Nat} {e e2 : TypeId} {w w' : World} {v v' u : Value} {n n2 : Nat} {xs ys zs : List Value} (hA : App lo e sz w w' v v' n xs ys) (hv : w.ownsRow lo0 e sz v n xs) (h : w.ownsRow lo2 e2 sz2 u n2 zs) (hne : e2 ≠ e) : w'.ownsRow lo2 e2 sz2 u n2 zs := by
  refine ⟨h.1, ?_⟩
  rcases h.2 with h0 | ⟨g, cap, cur, rfl, hg, hh, r⟩
  · exact Or.inl h0
  · exact Or.inr ⟨g, cap, cur, rfl, hg, hA.blk (t := e2) hh (own_ne hv (show Blk w g cur e2 from hh) hne), r⟩
theorem app_fr0 {lo sz : Nat} {e : TypeId} {ws w w' : World} {v v' : Value} {n : Nat} {xs ys : List Value} (hf : Fr (fun _ => False) ws w) (hA : App lo e sz w w' v v' n xs ys) (hv : w.ownsRow ws.heap.size e sz v n xs) : Fr (fun _ => False) ws w' := by
  refine hf.grown hA.grown (fun k hk => Or.inl ?_)
  rcases hv.2 with ⟨rfl, _⟩ | ⟨g, cap, cur, rfl, hg, _⟩
  · simp [Value.ownBlock] at hk
  · simp [Value.ownBlock] at hk
    omega

/-- the log's cell -/
theorem log_at {B : Nat} {w : World} {ao : Option Addr} {cp : Nat} {m : Mdl} (h : w.ownsRow B 3 1 (.slice ao m.log.length cp) m.log.length (logV m)) {j : Nat} (hj : j < m.log.length) : ∃ g, ao = some ⟨g, 0, none⟩ ∧ w.cell? ⟨g, j, none⟩ = some (.int .i64 (lg m j : Nat)) := by
  obtain ⟨ao', c', e, hg⟩ := own_shape h
  simp at e
  obtain ⟨rfl, rfl⟩ := e
  obtain ⟨g, rfl, _⟩ := hg (by omega)
  refine ⟨g, rfl, ?_⟩
  obtain ⟨cur, hb, _, _, _, hs, ht⟩ := own_blk h
  have h1 : (logV m)[j]? = some (.int .i64 (lg m j : Nat)) := by simp [logV, lg, hj]
  rw [hb.cell, ← Array.getElem?_toList, ← h1, ← ht, List.getElem?_take_of_lt (by omega)]

theorem and3 {k : Nat} (hk : k < 16) : bits BinOp.and IntKind.i64 (k : Int) 3 = ((k % 4 : Nat) : Int) := by
  have h : (List.range 16).all (fun k => bits BinOp.and IntKind.i64 (k : Int) 3 == ((k % 4 : Nat) : Int)) = true := by kernel_rfl
  simpa using all_lt h k hk
theorem and8 {k : Nat} (hk : k < 16) : bits BinOp.and IntKind.i64 (k : Int) 8 = ((if 8 ≤ k then 8 else 0 : Nat) : Int) := by
  have h : (List.range 16).all (fun k => bits BinOp.and IntKind.i64 (k : Int) 8 == ((if 8 ≤ k then 8 else 0 : Nat) : Int)) = true := by kernel_rfl
  have := all_lt h k hk
  exact beq_iff_eq.1 this
theorem wrap8 {k : Nat} (hk : k < 16) : IntKind.u8.wrap (k : Int) = (k : Int) := by
  have h : (List.range 16).all (fun k => IntKind.u8.wrap (k : Int) == (k : Int)) = true := by kernel_rfl
  have := all_lt h k hk
  exact beq_iff_eq.1 this
theorem and1 {k : Nat} (hk : k < 16) : bits BinOp.and IntKind.i64 (k : Int) 1 = ((k % 2 : Nat) : Int) := by
  have h : (List.range 16).all (fun k => bits BinOp.and IntKind.i64 (k : Int) 1 == ((k % 2 : Nat) : Int)) = true := by kernel_rfl
  have := all_lt h k hk
  exact beq_iff_eq.1 this

end Go.Proofs.Ybulkomi
