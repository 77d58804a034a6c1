/-
  Rows of several cells an element, an element for each of a list of numbers.
-/
import Derived.Test.YbulkomiSRem
namespace Go.Proofs.Ybulkomi
open Go.RowKit

def flatG (f : Nat → List Value) (X : List Nat) : List Value := X.flatMap f
theorem flatG_len {f : Nat → List Value} {sz : Nat} (hf : ∀ x, (f x).length = sz) (X : List Nat) : (flatG f X).length = X.length * sz := by
  induction X with
  | nil => simp [flatG]
  | cons x t ih =>
    simp only [flatG, List.flatMap_cons, List.length_append, List.length_cons, hf] at *
    rw [ih, Nat.succ_mul]; omega
theorem flatG_at {f : Nat → List Value} {sz : Nat} (hf : ∀ x, (f x).length = sz) (X : List Nat) : ∀ (i x : Nat), X[i]? = some x → ∀ j, j < sz → (flatG f X)[i * sz + j]? = (f x)[j]? := by
  induction X with
  | nil => intro i s h; simp at h
  | cons x t ih =>
    intro i s h j hj
    have hx := hf x
    simp only [flatG, List.flatMap_cons]
    cases i with
    | zero =>
      simp at h
      subst h
      rw [Nat.zero_mul, Nat.zero_add, List.getElem?_append_left (by omega)]
    | succ i =>
      simp at h
      rw [List.getElem?_append_right (by rw [hx, Nat.succ_mul]; omega), show (i + 1) * sz + j - (f x).length = i * sz + j by rw [hx, Nat.succ_mul]; omega]
      exact ih i s h j hj
theorem flatG_app (f : Nat → List Value) (X : List Nat) (x : Nat) : flatG f (X ++ [x]) = flatG f X ++ f x := by simp [flatG]

/-- An element of a row. -/
theorem row_at {w : World} {lo e sz : Nat} {v : Value} {f : Nat → List Value} (hf : ∀ x, (f x).length = sz) {X : List Nat} (h : w.ownsRow lo e sz v X.length (flatG f X)) :
    ∃ ao cap, v = .slice ao X.length cap ∧ ∀ i, (hi : i < X.length) → ∃ g, ao = some ⟨g, 0, none⟩ ∧ ∀ j, j < sz → w.cell? ⟨g, i * sz + j, none⟩ = (f X[i])[j]? := by
  obtain ⟨ao, cap, rfl, hg⟩ := own_shape h
  refine ⟨ao, cap, rfl, fun i hi => ?_⟩
  obtain ⟨g, rfl, _⟩ := hg (by omega)
  refine ⟨g, rfl, fun j hj => ?_⟩
  obtain ⟨cur, hb, _, _, _, hs, ht⟩ := own_blk h
  have hlt : i * sz + j < X.length * sz := by
    have : (i + 1) * sz ≤ X.length * sz := Nat.mul_le_mul_right sz hi
    rw [Nat.succ_mul] at this
    omega
  rw [hb.cell, ← Array.getElem?_toList, ← flatG_at hf X i X[i] (List.getElem?_eq_getElem hi) j hj, ← ht, List.getElem?_take_of_lt hlt]

def relL (x : Nat) : List Value := (relC (x % 16)).toList
def valC : List Value := [.int .u8 0, .int .u64 0, .string ⟨#[]⟩, .slice none 0 0, .slice none 0 0]
def avL (x : Nat) : List Value := (atC (x % 4)).toList ++ valC
def atL (x : Nat) : List Value := (atC (x % 4)).toList
theorem relL_len (x : Nat) : (relL x).length = 6 := rfl
theorem avL_len (x : Nat) : (avL x).length = 8 := rfl
theorem atL_len (x : Nat) : (atL x).length = 3 := rfl
theorem relL_one (x : Nat) : ∀ u ∈ relL x, u.oneCell' = true := by
  intro u hu
  simp [relL, relC] at hu
  rcases hu with rfl | rfl | rfl | rfl | rfl | rfl <;> rfl
theorem avL_one (x : Nat) : ∀ u ∈ avL x, u.oneCell' = true := by
  intro u hu
  simp [avL, atC, valC] at hu
  rcases hu with rfl | rfl | rfl | rfl | rfl | rfl | rfl <;> rfl
theorem atL_one (x : Nat) : ∀ u ∈ atL x, u.oneCell' = true := by
  intro u hu
  simp [atL, atC] at hu
  rcases hu with rfl | rfl | rfl <;> rfl

theorem info54 : (Yba.prog.info? 54).map (fun i => (i.zero, i.size, i.bytes)) = some (some (.agg #[.string ⟨#[]⟩, .string ⟨#[]⟩, .string ⟨#[]⟩, .string ⟨#[]⟩, .string ⟨#[]⟩, .string ⟨#[]⟩]), 6, 96) := by kernel_rfl
theorem info57 : (Yba.prog.info? 57).map (fun i => (i.zero, i.size, i.bytes)) = some (some (.agg #[.string ⟨#[]⟩, .string ⟨#[]⟩, .string ⟨#[]⟩]), 3, 48) := by kernel_rfl
theorem info60 : (Yba.prog.info? 60).map (fun i => (i.zero, i.size, i.bytes)) = some (some (.agg #[.string ⟨#[]⟩, .string ⟨#[]⟩, .string ⟨#[]⟩, .int .u8 0, .int .u64 0, .string ⟨#[]⟩, .slice none 0 0, .slice none 0 0]), 8, 128) := by kernel_rfl

/-- the batch applied to the model -/
def mW (m : Mdl) (X : List Nat) : Mdl := X.foldl (fun m x => mAdd m (x % 16)) m
def mD (m : Mdl) (X : List Nat) : Mdl := X.foldl (fun m x => mRem m (x % 16)) m
def mWA (m : Mdl) (X : List Nat) : Mdl := X.foldl (fun m x => mSet m (x % 4)) m
def mDA (m : Mdl) (X : List Nat) : Mdl := X.foldl (fun m x => mDel m (x % 4)) m
theorem fold_take {α : Type} (f : α → Nat → α) (a : α) (X : List Nat) {i : Nat} (hi : i < X.length) : (X.take (i + 1)).foldl f a = f ((X.take i).foldl f a) X[i] := by
  rw [List.take_succ_eq_append_getElem hi, List.foldl_append]; rfl
theorem mAdd_len (m : Mdl) (k : Nat) : (mAdd m k).log.length ≤ m.log.length + 1 := by
  unfold mAdd
  split
  · omega
  · simp [mNew]
theorem mW_len (X : List Nat) : ∀ m : Mdl, (mW m X).log.length ≤ m.log.length + X.length := by
  induction X with
  | nil => intro m; simp [mW]
  | cons x t ih =>
    intro m
    have h1 := ih (mAdd m (x % 16))
    have h2 := mAdd_len m (x % 16)
    simp only [mW, List.foldl_cons, List.length_cons] at *
    omega
theorem mD_log (X : List Nat) : ∀ m : Mdl, (mD m X).log = m.log := by
  induction X with
  | nil => intro m; rfl
  | cons x t ih =>
    intro m
    have := ih (mRem m (x % 16))
    simp only [mD, List.foldl_cons] at *
    rw [this]; rfl
theorem mWA_log (X : List Nat) : ∀ m : Mdl, (mWA m X).log = m.log := by
  induction X with
  | nil => intro m; rfl
  | cons x t ih =>
    intro m
    have := ih (mSet m (x % 4))
    simp only [mWA, List.foldl_cons] at *
    rw [this]; rfl
theorem mDA_log (X : List Nat) : ∀ m : Mdl, (mDA m X).log = m.log := by
  induction X with
  | nil => intro m; rfl
  | cons x t ih =>
    intro m
    have := ih (mDel m (x % 4))
    simp only [mDA, List.foldl_cons] at *
    rw [this]; rfl

/-- the attributes: one set, one removed -/
theorem sr_set {c : Cfg} {w w' : World} {m : Mdl} {L : List Nat} {V : Nat → Value} {SE SS : Nat → List Slot} {LA : List Nat} {VA : Nat → Value} (hx : SX c w m.log.length L V SE SS LA VA) (hm : SM m L V SE SS LA) {a : Nat} (ha : a < 4)
    (hm4 : Mf 4 atV w' c.m4 (putK LA a) (putV VA a valV)) (hf : Fr (fun k => k = c.m4) w w') : SR c w' (mSet m a) ∧ FT c.lo w w' := by
  obtain ⟨q1, q2⟩ := hx.fr4 hf hm4 (fun r hr => by
    by_cases e : r = a
    · simp [putV, e]
    · rw [putK_mem] at hr
      simpa [putV, e] using hx.attrV r (hr.resolve_right e))
  refine ⟨⟨_, _, _, _, _, _, q1, ⟨hm.set_, hm.ent, hm.sets, fun r => ?_, ⟨hm.inv.lt, hm.inv.at_⟩⟩⟩, q2⟩
  rw [putK_mem, hm.attr]
  by_cases e : r = a
  · simp [e, mSet, upB, ha]
  · simp [e, mSet, upB]
theorem sr_del {c : Cfg} {w w' : World} {m : Mdl} {L : List Nat} {V : Nat → Value} {SE SS : Nat → List Slot} {LA : List Nat} {VA : Nat → Value} (hx : SX c w m.log.length L V SE SS LA VA) (hm : SM m L V SE SS LA) {a : Nat}
    (hm4 : Mf 4 atV w' c.m4 (LA.filter (fun x => decide (x ≠ a))) VA) (hf : Fr (fun k => k = c.m4) w w') : SR c w' (mDel m a) ∧ FT c.lo w w' := by
  obtain ⟨q1, q2⟩ := hx.fr4 hf hm4 (fun r hr => hx.attrV r (List.mem_filter.1 hr).1)
  refine ⟨⟨_, _, _, _, _, _, q1, ⟨hm.set_, hm.ent, hm.sets, fun r => ?_, ⟨hm.inv.lt, hm.inv.at_⟩⟩⟩, q2⟩
  rw [List.mem_filter, hm.attr]
  by_cases e : r = a
  · simp [e, mDel, upB]
  · simp [e, mDel, upB]
theorem SR.fr {c : Cfg} {w w' : World} {m : Mdl} (h : SR c w m) {T : Nat → Prop} (hf : Fr T w w') (hT : ∀ k, TurnO (w.heap[k]?) → ¬ T k) : SR c w' m := by
  obtain ⟨L, V, SE, SS, LA, VA, hx, hm⟩ := h
  exact ⟨L, V, SE, SS, LA, VA, hx.fr hf hT, hm⟩
theorem SR.fr0 {c : Cfg} {w w' : World} {m : Mdl} (h : SR c w m) (hf : Fr (fun _ => False) w w') : SR c w' m := h.fr hf (fun _ _ s => s)

end Go.Proofs.Ybulkomi
