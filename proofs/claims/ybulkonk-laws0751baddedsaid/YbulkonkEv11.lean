/-
  LawS0751BAdded: the state's further steps.
-/
import Derived.Test.YbulkonkEv10
namespace Go.Proofs.Ybulkonk
open Go.RowKit Go.MuLone

def mix (n : Nat) (f g : Nat → Bool) : Nat → Bool := fun x => if x < n then f x else g (x - n)
def exs (n m : Nat) : List Nat := (List.range m).map (n + ·)
theorem exs_succ (n m : Nat) : exs n (m + 1) = exs n m ++ [n + m] := by simp [exs, List.range_succ]
theorem exs_len (n m : Nat) : (exs n m).length = m := by simp [exs]
theorem exs_mem {n m x : Nat} : x ∈ exs n m ↔ n ≤ x ∧ x < n + m := by
  simp [exs]
  constructor
  · rintro ⟨a, h1, rfl⟩; omega
  · rintro ⟨h1, h2⟩; exact ⟨x - n, by omega, by omega⟩
theorem exs_nodup (n m : Nat) : (List.range n ++ exs n m).Nodup := by
  refine List.nodup_append.2 ⟨List.nodup_range, ?_, fun a ha b hb e => ?_⟩
  · exact List.Pairwise.map _ (fun a b h e => h (by have e' : n + a = n + b := e; omega)) List.nodup_range
  · have h1 := List.mem_range.1 ha
    have h2 := exs_mem.1 hb
    omega

/-- A row of events that is not the set's has grown. -/
theorem St.fr85 {c : Cf} {eb : Nat → Nat} {D : Nat → Prop} {F : Nat → Bool} {sb : Option Nat} {V L : List Nat} {w w' : World} (h : St c eb D F sb V L (.slice none 0 0) w) {S : Nat → Prop} (hf : Fr S w w') (hS : ∀ k, S k → ∃ cur, Blk w k cur 85) (hX : c.sv = .slice none 0 0 ∧ c.X = []) : St c eb D F sb V L (.slice none 0 0) w' := by
  have keep : ∀ {k : Nat} {cc : Array Value} {t : TypeId}, Blk w k cc t → t ≠ 85 → Blk w' k cc t := fun hb ht => hf.blk hb (fun s => by
    obtain ⟨cur, hc⟩ := hS _ s
    exact blk_ne hb hc ht rfl)
  refine ⟨keep h.ev (by decide), ?_, h.vd, fun x hx => keep (h.tab x hx) (by decide), h.inj, ?_, Or.inl hX, h.xd, h.inn, h.l1, h.l2, h.l3, Nat.le_trans h.l4 hf.size⟩
  · obtain ⟨E, ho, r⟩ := h.own
    exact ⟨E, hf.own ho (fun k hk _ => by simp [Value.ownBlock] at hk), r⟩
  · obtain ⟨lv, hb, ho⟩ := h.log
    refine ⟨lv, keep hb (by decide), hf.own ho (fun k hk s => ?_)⟩
    obtain ⟨cur, hc⟩ := hS _ s
    exact own_ne ho hc (by decide) hk

/-- The extras stand: the state read with them. -/
theorem St.recfg {c c' : Cf} {eb : Nat → Nat} {D : Nat → Prop} {F : Nat → Bool} {V L : List Nat} {v : Value} {w : World} (h : St c eb D F none V L v w) (h1 : c'.evb = c.evb) (h2 : c'.lgb = c.lgb) (h3 : c'.lo = c.lo) (h4 : c'.ok = c.ok) (h5 : ∀ x, D x → c'.inn x = c.inn x)
    (hx : (c'.sv = .slice none 0 0 ∧ c'.X = []) ∨ (0 < c'.X.length ∧ ∃ gx cap, c'.sv = .slice (some ⟨gx, 0, none⟩) c'.X.length cap ∧ EvRow eb c'.X gx w ∧ v.ownBlock ≠ some gx)) (hd : ∀ x ∈ c'.X, D x) : St c' eb D F none V L v w := by
  refine ⟨h1 ▸ h.ev, ?_, h.vd, fun x hx => ?_, h.inj, ?_, hx, hd, fun x hx => ?_, by rw [h1, h3]; exact h.l1, by rw [h2, h3]; exact h.l2, by rw [h3]; exact h.l3, by rw [h3]; exact h.l4⟩
  · rw [h3]; exact h.own
  · have := h.tab x hx
    rw [h4, h2, h5 x hx]
    simpa [spv] using this
  · rw [h2, h3]; exact h.log
  · rw [h5 x hx, h1]; exact h.inn x hx

/-- Who brings the extras: the first that has not fired. -/
def who (F : Nat → Bool) (k : Nat) : Option Nat := (List.range k).find? (fun x => !F x)
theorem who_succ (F : Nat → Bool) (k : Nat) : who F (k + 1) = (who F k).or (if F k then none else some k) := by
  have h1 : [k].find? (fun x => !F x) = if F k then none else some k := by cases hF : F k <;> simp [hF]
  rw [who, List.range_succ, List.find?_append, h1]
  rfl
theorem who_lt {F : Nat → Bool} {k x : Nat} (h : who F k = some x) : x < k ∧ F x = false := by
  have h1 := List.mem_of_find?_eq_some h
  have h2 := List.find?_some h
  exact ⟨List.mem_range.1 h1, by simpa using h2⟩
def frst (F : Nat → Bool) (x : Nat) : Bool := (who F x).isNone && !F x
theorem who_U {F : Nat → Bool} {k x : Nat} (h : who F k = some x) : ∃ t, (List.range k).filter (fun y => !F y) = x :: t := by
  have h1 : ((List.range k).filter (fun y => !F y)).head? = some x := by rw [List.head?_filter]; exact h
  cases hl : (List.range k).filter (fun y => !F y) with
  | nil => rw [hl] at h1; simp at h1
  | cons y t => rw [hl] at h1; simp at h1; exact ⟨t, by rw [h1]⟩

def cfA (B n m : Nat) (ok F : Nat → Bool) (xv : Value) : Cf := ⟨B + 1, B, B, ok, fun x => if x < n then (if frst F x then .pointer (some ⟨B + 1, 0, none⟩) else .pointer none) else .pointer none, xv, exs n m⟩

end Go.Proofs.Ybulkonk
