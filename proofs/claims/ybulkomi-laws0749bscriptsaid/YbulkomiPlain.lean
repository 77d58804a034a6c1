/-
  The plain model of the script law, and its laws: no Go in sight.
-/
import Derived.Test.YbulkomiLRemS
namespace Go.Proofs.Ybulkomi
open Go.RowKit

structure Mdl where
  pr : Nat → Bool
  pl : Nat → Nat
  log : List Nat
  at_ : Nat → Bool

def upB (f : Nat → Bool) (k : Nat) (b : Bool) : Nat → Bool := fun j => if j = k then b else f j
def upN (f : Nat → Nat) (k : Nat) (b : Nat) : Nat → Nat := fun j => if j = k then b else f j

def mNew (m : Mdl) (k : Nat) : Mdl := { m with pr := upB m.pr k true, pl := upN m.pl k m.log.length, log := m.log ++ [k] }
def mAdd (m : Mdl) (k : Nat) : Mdl := if m.pr k = true then m else mNew m k
def mRem (m : Mdl) (k : Nat) : Mdl := { m with pr := upB m.pr k false }
def mSet (m : Mdl) (a : Nat) : Mdl := { m with at_ := upB m.at_ a true }
def mDel (m : Mdl) (a : Nat) : Mdl := { m with at_ := upB m.at_ a false }

/-- the relationship in the log at j; whether it counts, for relation q and kind b -/
def lg (m : Mdl) (j : Nat) : Nat := m.log.getD j 0
def ck (m : Mdl) (q : Nat) (b : Bool) (j : Nat) : Bool := m.pr (lg m j) && decide (m.pl (lg m j) = j) && decide (lg m j % 4 = q) && (decide (8 ≤ lg m j) == b)
def expL (m : Mdl) (q : Nat) (b : Bool) (n : Nat) : List Slot := ((List.range n).filter (ck m q b)).map (fun j => (j, some (lg m j)))

theorem expL_succ (m : Mdl) (q : Nat) (b : Bool) (n : Nat) : expL m q b (n + 1) = expL m q b n ++ (if ck m q b n = true then [(n, some (lg m n))] else []) := by
  unfold expL
  rw [List.range_succ, List.filter_append, List.map_append]
  congr 1
  cases h : ck m q b n <;> simp [h]

structure Inv (m : Mdl) : Prop where
  lt : ∀ k ∈ m.log, k < 16
  at_ : ∀ k, k < 16 → m.pr k = true → m.pl k < m.log.length ∧ lg m (m.pl k) = k

theorem lg_new (m : Mdl) (k j : Nat) (hj : j < m.log.length) : lg (mNew m k) j = lg m j := by
  simp [lg, mNew, List.getElem?_append_left hj]
theorem lg_new_last (m : Mdl) (k : Nat) : lg (mNew m k) m.log.length = k := by
  simp [lg, mNew]

theorem inv_new {m : Mdl} (h : Inv m) {k : Nat} (hk : k < 16) : Inv (mNew m k) := by
  refine ⟨fun x hx => ?_, fun x hx hp => ?_⟩
  · rcases List.mem_append.1 hx with hx | hx
    · exact h.lt x hx
    · simp at hx; omega
  · by_cases e : x = k
    · subst e
      have : (mNew m x).pl x = m.log.length := by simp [mNew, upN]
      rw [this]
      exact ⟨by simp [mNew], lg_new_last m x⟩
    · have hp' : m.pr x = true := by simpa [mNew, upB, e] using hp
      obtain ⟨a, b⟩ := h.at_ x hx hp'
      have : (mNew m k).pl x = m.pl x := by simp [mNew, upN, e]
      rw [this]
      refine ⟨by simp [mNew]; omega, ?_⟩
      rw [lg_new m k _ a]; exact b
theorem inv_rem {m : Mdl} (h : Inv m) (k : Nat) : Inv (mRem m k) := by
  refine ⟨h.lt, fun x hx hp => ?_⟩
  have hp' : m.pr x = true := by
    simp only [mRem, upB] at hp
    split at hp
    · simp at hp
    · exact hp
  exact h.at_ x hx hp'

theorem expL_congr {m m' : Mdl} {q : Nat} {b : Bool} {n : Nat} (hl : ∀ j, j < n → lg m' j = lg m j) (hc : ∀ j, j < n → ck m' q b j = ck m q b j) : expL m' q b n = expL m q b n := by
  unfold expL
  have h1 : (List.range n).filter (ck m' q b) = (List.range n).filter (ck m q b) := List.filter_congr (fun j hj => hc j (List.mem_range.1 hj))
  rw [h1]
  refine List.map_congr_left (fun j hj => ?_)
  rw [hl j (List.mem_range.1 (List.mem_filter.1 hj).1)]

/-- a new relationship -/
theorem expL_new {m : Mdl} {k : Nat} (hp : m.pr k = false) (q : Nat) (b : Bool) :
    expL (mNew m k) q b (mNew m k).log.length = expL m q b m.log.length ++ (if k % 4 = q ∧ decide (8 ≤ k) = b then [(m.log.length, some k)] else []) := by
  have hlen : (mNew m k).log.length = m.log.length + 1 := by simp [mNew]
  rw [hlen, expL_succ]
  congr 1
  · refine expL_congr (fun j hj => lg_new m k j hj) (fun j hj => ?_)
    unfold ck
    rw [lg_new m k j hj]
    by_cases e : lg m j = k
    · have h1 : (mNew m k).pl (lg m j) = m.log.length := by simp [mNew, upN, e]
      rw [h1, show m.pr (lg m j) = false by rw [e]; exact hp]
      simp [show m.log.length ≠ j by omega]
    · simp [mNew, upN, upB, e]
  · have h1 : ck (mNew m k) q b m.log.length = (decide (k % 4 = q) && (decide (8 ≤ k) == b)) := by
      unfold ck
      rw [lg_new_last]
      simp [mNew, upN, upB]
    rw [h1, lg_new_last]
    by_cases e1 : k % 4 = q <;> by_cases e2 : decide (8 ≤ k) = b <;> simp [e1, e2]

theorem ck_rem (m : Mdl) (k q : Nat) (b : Bool) (j : Nat) : ck (mRem m k) q b j = (ck m q b j && !decide (lg m j = k)) := by
  have : lg (mRem m k) j = lg m j := rfl
  unfold ck
  rw [this]
  by_cases e : lg m j = k
  · simp [mRem, upB, e]
  · have h1 : (mRem m k).pr (lg m j) = m.pr (lg m j) := by simp [mRem, upB, e]
    have h2 : (mRem m k).pl (lg m j) = m.pl (lg m j) := rfl
    rw [h1, h2, decide_eq_false e, Bool.not_false, Bool.and_true]

/-- a relationship of another relation or kind goes -/
theorem expL_rem_other (m : Mdl) (k q : Nat) (b : Bool) (n : Nat) (h : ¬ (k % 4 = q ∧ decide (8 ≤ k) = b)) : expL (mRem m k) q b n = expL m q b n := by
  refine expL_congr (fun _ _ => rfl) (fun j _ => ?_)
  rw [ck_rem]
  by_cases e : lg m j = k
  · have : ck m q b j = false := by
      cases hc : ck m q b j with
      | false => rfl
      | true =>
        exfalso
        unfold ck at hc
        rw [e] at hc
        simp only [Bool.and_eq_true, decide_eq_true_eq, beq_iff_eq] at hc
        exact h ⟨hc.1.2, hc.2⟩
    rw [this]; rfl
  · simp [e]

/-- .. of this one -/
theorem expL_rem {m : Mdl} (hi : Inv m) {k : Nat} (hk : k < 16) (hp : m.pr k = true) (q : Nat) (b : Bool) (n : Nat) : expL (mRem m k) q b n = (expL m q b n).filter (fun s => decide (s.1 ≠ m.pl k)) := by
  unfold expL
  rw [List.filter_map, List.filter_filter]
  have hf : (List.range n).filter (ck (mRem m k) q b) = (List.range n).filter (fun a => ((fun s : Slot => decide (s.1 ≠ m.pl k)) ∘ fun j => (j, some (lg m j))) a && ck m q b a) := by
    refine List.filter_congr (fun j _ => ?_)
    rw [ck_rem]
    cases hc : ck m q b j with
    | false => simp
    | true =>
      have hpl : m.pl (lg m j) = j := by
        unfold ck at hc
        simp only [Bool.and_eq_true, decide_eq_true_eq] at hc
        exact hc.1.1.2
      by_cases e : lg m j = k
      · have : j = m.pl k := by rw [← e, hpl]
        rw [decide_eq_true e]
        simp [this]
      · have : ¬ j = m.pl k := fun h => e (by rw [h]; exact (hi.at_ k hk hp).2)
        simp [e, this]
  rw [hf]
  rfl

theorem expL_mem {m : Mdl} (hi : Inv m) {k : Nat} (hk : k < 16) (hp : m.pr k = true) : (m.pl k, some k) ∈ expL m (k % 4) (decide (8 ≤ k)) m.log.length := by
  obtain ⟨h1, h2⟩ := hi.at_ k hk hp
  refine List.mem_map.2 ⟨m.pl k, List.mem_filter.2 ⟨List.mem_range.2 h1, ?_⟩, by rw [h2]⟩
  unfold ck
  rw [h2]
  simp [hp]

/-! ### one list of slots against what is expected -/
structure LInv (T E : List Slot) (n : Nat) : Prop where
  asc : T.Pairwise (fun a b => a.1 < b.1)
  lt : ∀ s ∈ T, s.1 < n
  live : live T = E
  ne : T ≠ [] → E ≠ []

theorem LInv.Asc {T E : List Slot} {n : Nat} (h : LInv T E n) : Asc T := fun i j hij hj hi => (List.pairwise_iff_getElem.1 h.asc) i j hi hj hij

theorem pw_len : ∀ (l : List Nat) (lo n : Nat), l.Pairwise (· < ·) → (∀ x ∈ l, lo ≤ x ∧ x < n) → lo ≤ n → l.length ≤ n - lo := by
  intro l
  induction l with
  | nil => intro lo n _ _ _; simp
  | cons x t ih =>
    intro lo n hp hb hn
    obtain ⟨h1, h2⟩ := List.pairwise_cons.1 hp
    have hx := hb x (by simp)
    have := ih (x + 1) n h2 (fun y hy => ⟨h1 y hy, (hb y (by simp [hy])).2⟩) (by omega)
    simp only [List.length_cons]
    omega
theorem LInv.len {T E : List Slot} {n : Nat} (h : LInv T E n) : T.length ≤ n := by
  have := pw_len (T.map (·.1)) 0 n (List.pairwise_map.2 h.asc) (fun x hx => by
    obtain ⟨s, hs, rfl⟩ := List.mem_map.1 hx
    exact ⟨Nat.zero_le _, h.lt s hs⟩) (Nat.zero_le _)
  simpa using this

theorem LInv.grow {T E : List Slot} {n : Nat} (h : LInv T E n) : LInv T E (n + 1) := ⟨h.asc, fun s hs => Nat.lt_succ_of_lt (h.lt s hs), h.live, h.ne⟩
theorem LInv.push {T E : List Slot} {n : Nat} (h : LInv T E n) (k : Nat) : LInv (T ++ [(n, some k)]) (E ++ [(n, some k)]) (n + 1) := by
  refine ⟨List.pairwise_append.2 ⟨h.asc, by simp, fun a ha b hb => ?_⟩, fun s hs => ?_, ?_, fun _ => by simp⟩
  · simp at hb; subst hb; exact h.lt a ha
  · rcases List.mem_append.1 hs with hs | hs
    · exact Nat.lt_succ_of_lt (h.lt s hs)
    · simp at hs; subst hs; simp
  · have : Go.Proofs.Ybulkomi.live (T ++ [(n, some k)]) = Go.Proofs.Ybulkomi.live T ++ [(n, some k)] := by simp [Go.Proofs.Ybulkomi.live]
    rw [this, h.live]

theorem live_hole (S : List Slot) : ∀ (i p : Nat) (hi : i < S.length), S.Pairwise (fun a b => a.1 < b.1) → S[i].1 = p → live (hole1 S i p) = (live S).filter (fun s => decide (s.1 ≠ p)) := by
  induction S with
  | nil => intro i p h; simp at h
  | cons s t ih =>
    intro i p hi hp he
    obtain ⟨h1, h2⟩ := List.pairwise_cons.1 hp
    cases i with
    | zero =>
      simp at he
      have hkeep : (live t).filter (fun s => decide (s.1 ≠ p)) = live t := List.filter_eq_self.2 (fun x hx => by
        have := h1 x (List.mem_filter.1 hx).1
        simp; omega)
      show live ((p, none) :: t) = _
      have e1 : live ((p, none) :: t) = live t := by simp [live]
      rw [e1]
      rcases s with ⟨sp, so⟩
      simp at he
      subst he
      cases so with
      | none => rw [show live ((sp, none) :: t) = live t by simp [live], hkeep]
      | some k => rw [show live ((sp, some k) :: t) = (sp, some k) :: live t by simp [live], List.filter_cons_of_neg (by simp), hkeep]
    | succ i =>
      simp at hi he
      have hne : s.1 ≠ p := by
        have := h1 t[i] (List.getElem_mem hi)
        omega
      have := ih i p hi h2 he
      show live (s :: hole1 t i p) = _
      rcases s with ⟨sp, so⟩
      cases so with
      | none => rw [show live ((sp, none) :: hole1 t i p) = live (hole1 t i p) by simp [live], this, show live ((sp, none) :: t) = live t by simp [live]]
      | some k => rw [show live ((sp, some k) :: hole1 t i p) = (sp, some k) :: live (hole1 t i p) by simp [live], this, show live ((sp, some k) :: t) = (sp, some k) :: live t by simp [live], List.filter_cons_of_pos (by simpa using hne)]

theorem hole_pw {S : List Slot} {i p : Nat} (hi : i < S.length) (h : S.Pairwise (fun a b => a.1 < b.1)) (he : S[i].1 = p) : (hole1 S i p).Pairwise (fun a b => a.1 < b.1) := by
  have hm : (hole1 S i p).map (·.1) = S.map (·.1) := by
    unfold hole1
    rw [List.map_set]
    have : (p, (none : Option Nat)).1 = (S.map (·.1))[i]'(by simpa using hi) := by simp [he]
    rw [this, List.set_getElem_self]
  exact List.pairwise_map.1 (by rw [hm]; exact List.pairwise_map.2 h)
theorem hole_lt {S : List Slot} {i p n : Nat} (hi : i < S.length) (h : ∀ s ∈ S, s.1 < n) (he : S[i].1 = p) : ∀ s ∈ hole1 S i p, s.1 < n := by
  intro s hs
  rcases List.mem_or_eq_of_mem_set hs with h1 | h1
  · exact h s h1
  · subst h1
    have := h S[i] (List.getElem_mem hi)
    simpa [he] using this

theorem LInv.rem {S E T : List Slot} {n i p : Nat} (h : LInv S E n) (hi : i < S.length) (he : S[i].1 = p) (h1 : Go.Proofs.Ybulkomi.live T = Go.Proofs.Ybulkomi.live (hole1 S i p)) (h2 : T.Sublist (hole1 S i p)) (h3 : T ≠ [] → Go.Proofs.Ybulkomi.live T ≠ []) : LInv T (E.filter (fun s => decide (s.1 ≠ p))) n := by
  have hl : Go.Proofs.Ybulkomi.live T = E.filter (fun s => decide (s.1 ≠ p)) := by rw [h1, live_hole S i p hi h.asc he, h.live]
  exact ⟨(hole_pw hi h.asc he).sublist h2, fun s hs => hole_lt hi h.lt he s (h2.subset hs), hl, fun e => by rw [← hl]; exact h3 e⟩

/-- where the slot lies -/
theorem LInv.find {S E : List Slot} {n p k : Nat} (h : LInv S E n) (hm : (p, some k) ∈ E) : ∃ i, ∃ hi : i < S.length, S[i] = (p, some k) := by
  rw [← h.live] at hm
  obtain ⟨i, hi, he⟩ := List.mem_iff_getElem.1 (List.mem_filter.1 hm).1
  exact ⟨i, hi, he⟩

end Go.Proofs.Ybulkomi
