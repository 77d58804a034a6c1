/-
  The store on the heap against the plain model; frames.
-/
import Derived.Test.YbulkomiPlain
namespace Go.Proofs.Ybulkomi
open Go.RowKit

def valV : Value := .agg #[.int .u8 0, .int .u64 0, .string ⟨#[]⟩, .slice none 0 0, .slice none 0 0]

structure Cfg where
  sb : Nat
  m1 : Nat
  m2 : Nat
  m3 : Nat
  m4 : Nat
  lo : Nat

/-- The store on the heap. -/
structure SX (c : Cfg) (w : World) (n : Nat) (L : List Nat) (V : Nat → Value) (SE SS : Nat → List Slot) (LA : List Nat) (VA : Nat → Value) : Prop where
  blk : Blk w c.sb (stC c.m1 c.m2 c.m3 c.m4 n) 69
  set_ : Mf 16 relV w c.m1 L V
  ent : ER w c.m2 c.lo SE
  sets : Sj.ER w c.m3 c.lo SS
  attr : Mf 4 atV w c.m4 LA VA
  ne : c.m1 ≠ c.m2 ∧ c.m1 ≠ c.m3 ∧ c.m1 ≠ c.m4 ∧ c.m2 ≠ c.m3 ∧ c.m2 ≠ c.m4 ∧ c.m3 ≠ c.m4
  lo_ : c.lo ≤ w.heap.size
  los : c.lo ≤ c.sb ∧ c.lo ≤ c.m1 ∧ c.lo ≤ c.m2 ∧ c.lo ≤ c.m3 ∧ c.lo ≤ c.m4
  attrV : ∀ a, a ∈ LA → VA a = valV

/-- .. tells what the model tells. -/
structure SM (m : Mdl) (L : List Nat) (V : Nat → Value) (SE SS : Nat → List Slot) (LA : List Nat) : Prop where
  set_ : (∀ k, k ∈ L ↔ (k < 16 ∧ m.pr k = true)) ∧ (∀ k, k ∈ L → V k = .int .u64 (m.pl k : Nat))
  ent : ∀ q, q < 4 → LInv (SE q) (expL m q false m.log.length) m.log.length
  sets : ∀ q, q < 4 → LInv (SS q) (expL m q true m.log.length) m.log.length
  attr : ∀ a, a ∈ LA ↔ (a < 4 ∧ m.at_ a = true)
  inv : Inv m

def SR (c : Cfg) (w : World) (m : Mdl) : Prop := ∃ L V SE SS LA VA, SX c w m.log.length L V SE SS LA VA ∧ SM m L V SE SS LA

/-- what the store's operations may turn: maps, the store's own cells, rows of slots -/
def TurnO (o : Option Obj) : Prop := (∃ es cl, o = some (.map es cl)) ∨ ∃ cur t, o = some (.cells cur t (0, 0)) ∧ (t = 69 ∨ t = 76 ∨ t = 78)
abbrev FT (lo : Nat) (w w' : World) : Prop := Fr (fun k => lo ≤ k ∧ TurnO (w.heap[k]?)) w w'
theorem FT.trans {lo : Nat} {a b c : World} (h : FT lo a b) (k : FT lo b c) : FT lo a c := by
  refine Fr.trans' h k (fun i hi t => ?_)
  by_cases hs : lo ≤ i ∧ TurnO (a.heap[i]?)
  · exact hs
  · have e := h.block i hi hs
    rw [e] at t
    exact t
theorem FT.of {lo : Nat} {w w' : World} {S : Nat → Prop} (h : Fr S w w') (hS : ∀ k, S k → lo ≤ k ∧ TurnO (w.heap[k]?)) : FT lo w w' := h.mono hS
theorem turn_map {N : Nat} {K : Nat → Value} {w : World} {mb : Nat} {L : List Nat} {V : Nat → Value} (h : Mf N K w mb L V) : TurnO (w.heap[mb]?) := by
  obtain ⟨es, cl, hb, _⟩ := h.obj
  exact Or.inl ⟨es, cl, hb⟩
theorem turn_blk {w : World} {k : Nat} {cur : Array Value} {t : TypeId} (h : Blk w k cur t) (ht : t = 69 ∨ t = 76 ∨ t = 78) : TurnO (w.heap[k]?) := Or.inr ⟨cur, t, h, ht⟩
theorem no_turn {w : World} {k : Nat} {cur : Array Value} {t : TypeId} (h : Blk w k cur t) (h1 : t ≠ 69) (h2 : t ≠ 76) (h3 : t ≠ 78) : ¬ TurnO (w.heap[k]?) := by
  unfold Blk at h
  rw [h]
  rintro (⟨_, _, e⟩ | ⟨_, _, e, ht⟩)
  · simp at e
  · simp at e
    obtain ⟨_, rfl⟩ := e
    rcases ht with ht | ht | ht
    · exact h1 ht
    · exact h2 ht
    · exact h3 ht
theorem FT.blk {b : Nat} {w w' : World} (h : FT b w w') {k : Nat} {cur : Array Value} {t : TypeId} (hb : Blk w k cur t) (h1 : t ≠ 69) (h2 : t ≠ 76) (h3 : t ≠ 78) : Blk w' k cur t := Fr.blk h hb (fun s => no_turn hb h1 h2 h3 s.2)
theorem FT.own {b : Nat} {w w' : World} (h : FT b w w') {lo : Nat} {e : TypeId} {v : Value} {n sz : Nat} {xs : List Value} (ho : w.ownsRow lo e sz v n xs) (h1 : e ≠ 69) (h2 : e ≠ 76) (h3 : e ≠ 78) : w'.ownsRow lo e sz v n xs := by
  refine Fr.own h ho (fun k hk s => ?_)
  obtain ⟨ao, c, rfl, _⟩ := own_shape ho
  rcases ao with _ | ad
  · simp [Value.ownBlock] at hk
  · have hv := ho
    rcases ho.2 with ⟨e0, _⟩ | ⟨g, cap, cur, hv, hg, hh, _⟩
    · simp at e0
    · simp at hv
      obtain ⟨rfl, rfl⟩ := hv
      simp [Value.ownBlock] at hk
      subst hk
      exact no_turn (w := w) (cur := cur) (t := e) hh h1 h2 h3 s.2

theorem er_map {w : World} {mb lo : Nat} {S : Nat → List Slot} (h : ER w mb lo S) : TurnO (w.heap[mb]?) ∧ (∀ k cur t, Blk w k cur t → k ≠ mb) := by
  obtain ⟨L, V, g, cap, a, _⟩ := h.rep
  exact ⟨turn_map a, fun k cur t hb => mf_ne a hb⟩
theorem sj_map {w : World} {mb lo : Nat} {S : Nat → List Slot} (h : Sj.ER w mb lo S) : TurnO (w.heap[mb]?) ∧ (∀ k cur t, Blk w k cur t → k ≠ mb) := by
  obtain ⟨L, V, g, cap, a, _⟩ := h.rep
  exact ⟨turn_map a, fun k cur t hb => mf_ne a hb⟩

/-- nothing that the store rests on turns -/
theorem SX.fr {c : Cfg} {w w' : World} {n : Nat} {L : List Nat} {V : Nat → Value} {SE SS : Nat → List Slot} {LA : List Nat} {VA : Nat → Value} (h : SX c w n L V SE SS LA VA) {T : Nat → Prop} (hf : Fr T w w') (hT : ∀ k, TurnO (w.heap[k]?) → ¬ T k) : SX c w' n L V SE SS LA VA :=
  ⟨hf.blk h.blk (hT _ (turn_blk h.blk (Or.inl rfl))), h.set_.fr hf (hT _ (turn_map h.set_)), h.ent.fr hf (hT _ (er_map h.ent).1) (fun _ _ hb => hT _ (turn_blk hb (Or.inr (Or.inl rfl)))),
    h.sets.fr hf (hT _ (sj_map h.sets).1) (fun _ _ hb => hT _ (turn_blk hb (Or.inr (Or.inr rfl)))), h.attr.fr hf (hT _ (turn_map h.attr)), h.ne, Nat.le_trans h.lo_ hf.size, h.los, h.attrV⟩
theorem SX.fr0 {c : Cfg} {w w' : World} {n : Nat} {L : List Nat} {V : Nat → Value} {SE SS : Nat → List Slot} {LA : List Nat} {VA : Nat → Value} (h : SX c w n L V SE SS LA VA) (hf : Fr (fun _ => False) w w') : SX c w' n L V SE SS LA VA := h.fr hf (fun _ _ s => s)

/-- the number of places given turns -/
theorem SX.frB {c : Cfg} {w w' : World} {n n' : Nat} {L : List Nat} {V : Nat → Value} {SE SS : Nat → List Slot} {LA : List Nat} {VA : Nat → Value} (h : SX c w n L V SE SS LA VA) (hf : Fr (fun k => k = c.sb) w w') (hb : Blk w' c.sb (stC c.m1 c.m2 c.m3 c.m4 n') 69) : SX c w' n' L V SE SS LA VA ∧ FT c.lo w w' :=
  ⟨⟨hb, h.set_.fr hf (fun e => mf_ne h.set_ h.blk e.symm), h.ent.fr hf (fun e => (er_map h.ent).2 _ _ _ h.blk e.symm) (fun _ _ hb e => blk_ne hb h.blk (by decide) e),
    h.sets.fr hf (fun e => (sj_map h.sets).2 _ _ _ h.blk e.symm) (fun _ _ hb e => blk_ne hb h.blk (by decide) e), h.attr.fr hf (fun e => mf_ne h.attr h.blk e.symm), h.ne, Nat.le_trans h.lo_ hf.size, h.los, h.attrV⟩,
    FT.of hf (fun k e => by rw [e]; exact ⟨h.los.1, turn_blk h.blk (Or.inl rfl)⟩)⟩
/-- the set turns -/
theorem SX.fr1 {c : Cfg} {w w' : World} {n : Nat} {L L' : List Nat} {V V' : Nat → Value} {SE SS : Nat → List Slot} {LA : List Nat} {VA : Nat → Value} (h : SX c w n L V SE SS LA VA) (hf : Fr (fun k => k = c.m1) w w') (hm : Mf 16 relV w' c.m1 L' V') : SX c w' n L' V' SE SS LA VA ∧ FT c.lo w w' :=
  ⟨⟨hf.blk h.blk (fun e => mf_ne h.set_ h.blk e), hm, h.ent.fr hf (fun e => h.ne.1 e.symm) (fun _ _ hb e => mf_ne h.set_ hb e),
    h.sets.fr hf (fun e => h.ne.2.1 e.symm) (fun _ _ hb e => mf_ne h.set_ hb e), h.attr.fr hf (fun e => h.ne.2.2.1 e.symm), h.ne, Nat.le_trans h.lo_ hf.size, h.los, h.attrV⟩,
    FT.of hf (fun k e => by rw [e]; exact ⟨h.los.2.1, turn_map h.set_⟩)⟩
/-- the attributes turn -/
theorem SX.fr4 {c : Cfg} {w w' : World} {n : Nat} {L : List Nat} {V : Nat → Value} {SE SS : Nat → List Slot} {LA LA' : List Nat} {VA VA' : Nat → Value} (h : SX c w n L V SE SS LA VA) (hf : Fr (fun k => k = c.m4) w w') (hm : Mf 4 atV w' c.m4 LA' VA') (hv : ∀ a, a ∈ LA' → VA' a = valV) : SX c w' n L V SE SS LA' VA' ∧ FT c.lo w w' :=
  ⟨⟨hf.blk h.blk (fun e => mf_ne h.attr h.blk e), h.set_.fr hf h.ne.2.2.1, h.ent.fr hf h.ne.2.2.2.2.1 (fun _ _ hb e => mf_ne h.attr hb e),
    h.sets.fr hf h.ne.2.2.2.2.2 (fun _ _ hb e => mf_ne h.attr hb e), hm, h.ne, Nat.le_trans h.lo_ hf.size, h.los, hv⟩,
    FT.of hf (fun k e => by rw [e]; exact ⟨h.los.2.2.2.2, turn_map h.attr⟩)⟩
/-- the lists of entities turn -/
theorem SX.fr2 {c : Cfg} {w w' : World} {n : Nat} {L : List Nat} {V : Nat → Value} {SE SE' SS : Nat → List Slot} {LA : List Nat} {VA : Nat → Value} (h : SX c w n L V SE SS LA VA) (hf : FE c.m2 c.lo w w') (hm : ER w' c.m2 c.lo SE') : SX c w' n L V SE' SS LA VA ∧ FT c.lo w w' := by
  have hmap := er_map h.ent
  refine ⟨⟨hf.blk h.blk ?_, h.set_.fr hf ?_, hm, h.sets.fr hf ?_ ?_, h.attr.fr hf ?_, h.ne, Nat.le_trans h.lo_ hf.size, h.los, h.attrV⟩, FT.of hf ?_⟩
  · rintro (e | ⟨_, cur, e⟩)
    · exact hmap.2 _ _ _ h.blk e
    · exact blk_ne h.blk e (by decide) rfl
  · rintro (e | ⟨_, cur, e⟩)
    · exact h.ne.1 e
    · exact mf_ne h.set_ e rfl
  · rintro (e | ⟨_, cur, e⟩)
    · exact h.ne.2.2.2.1 e.symm
    · exact (sj_map h.sets).2 _ _ _ e rfl
  · rintro k cur hb (e | ⟨_, cur', e⟩)
    · exact hmap.2 _ _ _ hb e
    · exact blk_ne hb e (by decide) rfl
  · rintro (e | ⟨_, cur, e⟩)
    · exact h.ne.2.2.2.2.1 e.symm
    · exact mf_ne h.attr e rfl
  · rintro k (e | ⟨hl, cur, e⟩)
    · rw [e]; exact ⟨h.los.2.2.1, hmap.1⟩
    · exact ⟨hl, turn_blk e (Or.inr (Or.inl rfl))⟩
/-- the lists of subject sets turn -/
theorem SX.fr3 {c : Cfg} {w w' : World} {n : Nat} {L : List Nat} {V : Nat → Value} {SE SS SS' : Nat → List Slot} {LA : List Nat} {VA : Nat → Value} (h : SX c w n L V SE SS LA VA) (hf : Sj.FE c.m3 c.lo w w') (hm : Sj.ER w' c.m3 c.lo SS') : SX c w' n L V SE SS' LA VA ∧ FT c.lo w w' := by
  have hmap := sj_map h.sets
  refine ⟨⟨hf.blk h.blk ?_, h.set_.fr hf ?_, h.ent.fr hf ?_ ?_, hm, h.attr.fr hf ?_, h.ne, Nat.le_trans h.lo_ hf.size, h.los, h.attrV⟩, FT.of hf ?_⟩
  · rintro (e | ⟨_, cur, e⟩)
    · exact hmap.2 _ _ _ h.blk e
    · exact blk_ne h.blk e (by decide) rfl
  · rintro (e | ⟨_, cur, e⟩)
    · exact h.ne.2.1 e
    · exact mf_ne h.set_ e rfl
  · rintro (e | ⟨_, cur, e⟩)
    · exact h.ne.2.2.2.1 e
    · exact (er_map h.ent).2 _ _ _ e rfl
  · rintro k cur hb (e | ⟨_, cur', e⟩)
    · exact hmap.2 _ _ _ hb e
    · exact blk_ne hb e (by decide) rfl
  · rintro (e | ⟨_, cur, e⟩)
    · exact h.ne.2.2.2.2.2 e.symm
    · exact mf_ne h.attr e rfl
  · rintro k (e | ⟨hl, cur, e⟩)
    · rw [e]; exact ⟨h.los.2.2.2.1, hmap.1⟩
    · exact ⟨hl, turn_blk e (Or.inr (Or.inr rfl))⟩

/-! ### the model's steps -/
theorem putK_mem {L : List Nat} {k r : Nat} : r ∈ putK L k ↔ (r ∈ L ∨ r = k) := by
  unfold putK
  by_cases h : k ∈ L
  · rw [if_pos h]
    exact ⟨Or.inl, fun e => e.elim id (fun e => e ▸ h)⟩
  · rw [if_neg h]; simp

theorem sm_new {m : Mdl} {L : List Nat} {V : Nat → Value} {SE SS : Nat → List Slot} {LA : List Nat} (h : SM m L V SE SS LA) {k : Nat} (hk : k < 16) (hp : m.pr k = false) {SE' SS' : Nat → List Slot}
    (hE : SE' = if 8 ≤ k then SE else updS SE (k % 4) (SE (k % 4) ++ [(m.log.length, some k)])) (hS : SS' = if 8 ≤ k then updS SS (k % 4) (SS (k % 4) ++ [(m.log.length, some k)]) else SS) :
    SM (mNew m k) (putK L k) (putV V k (.int .u64 (m.log.length : Nat))) SE' SS' LA := by
  have hlen : (mNew m k).log.length = m.log.length + 1 := by simp [mNew]
  refine ⟨⟨fun r => ?_, fun r hr => ?_⟩, fun q hq => ?_, fun q hq => ?_, h.attr, inv_new h.inv hk⟩
  · rw [putK_mem, h.set_.1]
    by_cases e : r = k
    · simp [e, mNew, upB, hk]
    · simp [e, mNew, upB]
  · by_cases e : r = k
    · simp [putV, e, mNew, upN]
    · rw [putK_mem] at hr
      have := h.set_.2 r (hr.resolve_right e)
      simp [putV, e, mNew, upN, this]
  · rw [expL_new hp, hlen, hE]
    by_cases h8 : 8 ≤ k
    · simpa [h8] using (h.ent q hq).grow
    · by_cases e : k % 4 = q
      · simpa [h8, e, updS] using (h.ent q hq).push k
      · simpa [h8, e, updS, show ¬ q = k % 4 from fun x => e x.symm] using (h.ent q hq).grow
  · rw [expL_new hp, hlen, hS]
    by_cases h8 : 8 ≤ k
    · by_cases e : k % 4 = q
      · simpa [h8, e, updS] using (h.sets q hq).push k
      · simpa [h8, e, updS, show ¬ q = k % 4 from fun x => e x.symm] using (h.sets q hq).grow
    · simpa [h8] using (h.sets q hq).grow

theorem sm_rem {m : Mdl} {L : List Nat} {V : Nat → Value} {SE SS : Nat → List Slot} {LA : List Nat} (h : SM m L V SE SS LA) {k : Nat} (hk : k < 16) (hp : m.pr k = true) {SE' SS' : Nat → List Slot}
    (hE : (8 ≤ k ∧ SE' = SE) ∨ (¬ 8 ≤ k ∧ ∃ T, SE' = updS SE (k % 4) T ∧ LInv T ((expL m (k % 4) false m.log.length).filter (fun s => decide (s.1 ≠ m.pl k))) m.log.length))
    (hS : (¬ 8 ≤ k ∧ SS' = SS) ∨ (8 ≤ k ∧ ∃ T, SS' = updS SS (k % 4) T ∧ LInv T ((expL m (k % 4) true m.log.length).filter (fun s => decide (s.1 ≠ m.pl k))) m.log.length)) :
    SM (mRem m k) (L.filter (fun x => decide (x ≠ k))) V SE' SS' LA := by
  have hlen : (mRem m k).log.length = m.log.length := rfl
  refine ⟨⟨fun r => ?_, fun r hr => ?_⟩, fun q hq => ?_, fun q hq => ?_, h.attr, inv_rem h.inv k⟩
  · rw [List.mem_filter, h.set_.1]
    by_cases e : r = k
    · simp [e, mRem, upB]
    · simp [e, mRem, upB]
  · exact h.set_.2 r (List.mem_filter.1 hr).1
  · rw [hlen]
    rcases hE with ⟨h8, rfl⟩ | ⟨h8, T, rfl, hT⟩
    · rw [expL_rem_other m k q false _ (by simp [h8])]
      exact h.ent q hq
    · by_cases e : q = k % 4
      · subst e
        rw [expL_rem h.inv hk hp]
        simpa [updS] using hT
      · rw [expL_rem_other m k q false _ (fun x => e x.1.symm)]
        simpa [updS, e] using h.ent q hq
  · rw [hlen]
    rcases hS with ⟨h8, rfl⟩ | ⟨h8, T, rfl, hT⟩
    · rw [expL_rem_other m k q true _ (by simp [h8])]
      exact h.sets q hq
    · by_cases e : q = k % 4
      · subst e
        rw [expL_rem h.inv hk hp]
        simpa [updS] using hT
      · rw [expL_rem_other m k q true _ (fun x => e x.1.symm)]
        simpa [updS, e] using h.sets q hq

end Go.Proofs.Ybulkomi
