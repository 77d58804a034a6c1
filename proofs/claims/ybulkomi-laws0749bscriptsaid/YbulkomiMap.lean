/-
  Maps whose keys are a known family of structs 'K 0, K 1, ..', whose elements are whatever values: the keys present 'L' (in the order of the entries), the elements 'V'.
-/
import Derived.Test.YbulkomiBase
import Derived.WideKeyMaps
import Derived.DeepKeys4
import Derived.Maps.Own
import Derived.Maps.OwnOps
import Derived.Maps.OwnSet
namespace Go.Proofs.Ybulkomi
open Go.RowKit

theorem go_obj {P : Program} {w : World} {r : Nat} {es : Array MapEntry} {c : Nat} (hb : w.heap[r]? = some (.map es c)) : (getObj r).run P w = .ok (.map es c) w := by
  simp [getObj, Sem.run, hb]
theorem so_obj {P : Program} {w : World} {r : Nat} {es : Array MapEntry} {c : Nat} (hb : w.heap[r]? = some (.map es c)) (o : Obj) : (setObj r o).run P w = .ok () { w with heap := w.heap.setIfInBounds r o } := by
  simp [setObj, Sem.run, hb]

structure KOk (P : Program) (t : TypeId) (K : Nat → Value) (N : Nat) : Prop where
  law : WideMaps.KeyLaw P t
  key : ∀ i, i < N → ∃ l, keyOf P t (K i) = some l
  inj : ∀ i j, i < N → j < N → K i = K j → i = j

structure Mf (N : Nat) (K : Nat → Value) (w : World) (mb : Nat) (L : List Nat) (V : Nat → Value) : Prop where
  obj : ∃ es clock, w.heap[mb]? = some (.map es clock) ∧ es.toList.map (fun e => (e.key, e.val)) = L.map (fun i => (K i, V i))
  nd : L.Nodup
  lt : ∀ x ∈ L, x < N

theorem Mf.ltb {N : Nat} {K : Nat → Value} {w : World} {mb : Nat} {L : List Nat} {V : Nat → Value} (h : Mf N K w mb L V) : mb < w.heap.size := by
  obtain ⟨es, c, hb, _⟩ := h.obj
  exact (Array.getElem?_eq_some_iff.1 hb).1

theorem Mf.fr {N : Nat} {K : Nat → Value} {w w' : World} {mb : Nat} {L : List Nat} {V : Nat → Value} (h : Mf N K w mb L V) {S : Nat → Prop} (hf : Fr S w w') (hn : ¬ S mb) : Mf N K w' mb L V := by
  obtain ⟨es, c, hb, r⟩ := h.obj
  exact ⟨⟨es, c, (hf.block mb h.ltb hn).trans hb, r⟩, h.nd, h.lt⟩

theorem Mf.congr {N : Nat} {K : Nat → Value} {w : World} {mb : Nat} {L : List Nat} {V V' : Nat → Value} (h : Mf N K w mb L V) (e : ∀ i ∈ L, V i = V' i) : Mf N K w mb L V' := by
  obtain ⟨es, c, hb, r⟩ := h.obj
  exact ⟨⟨es, c, hb, r.trans (List.map_congr_left (fun i hi => by rw [e i hi]))⟩, h.nd, h.lt⟩

theorem mf_find {P : Program} {t : TypeId} {K : Nat → Value} {N : Nat} (k : KOk P t K N) {L : List Nat} {V : Nat → Value} (lt : ∀ x ∈ L, x < N) {es : Array MapEntry} (r : es.toList.map (fun e => (e.key, e.val)) = L.map (fun i => (K i, V i))) {i : Nat} (hi : i < N) (w : World) :
    (i ∉ L ∧ (Instr.findKey t (K i) es.toList).run P w = .ok none w) ∨ (∃ j, L[j]? = some i ∧ (Instr.findKey t (K i) es.toList).run P w = .ok (some (j, V i)) w ∧ ∃ e, es[j]? = some e ∧ e.key = K i) := by
  obtain ⟨lx, hx⟩ := k.key i hi
  have hall : ∀ e ∈ es.toList, ∃ q ∈ L, (e.key, e.val) = (K q, V q) := fun e he => by
    have : (e.key, e.val) ∈ es.toList.map (fun e => (e.key, e.val)) := List.mem_map.2 ⟨e, he, rfl⟩
    rw [r] at this
    obtain ⟨q, hq, h⟩ := List.mem_map.1 this
    exact ⟨q, hq, h.symm⟩
  rcases k.law.find w hx es.toList (fun e he => by
    obtain ⟨q, hq, h⟩ := hall e he
    rw [show e.key = K q from (Prod.mk.inj h).1]
    exact k.key q (lt q hq)) with ⟨h1, h2⟩ | ⟨j, e, h1, h2, h3⟩
  · refine Or.inl ⟨fun hm => ?_, h1⟩
    have : (K i, V i) ∈ L.map (fun i => (K i, V i)) := List.mem_map.2 ⟨i, hm, rfl⟩
    rw [← r] at this
    obtain ⟨e, he, h⟩ := List.mem_map.1 this
    exact h2 e he (Prod.mk.inj h).1
  · have hj : (es.toList.map (fun e => (e.key, e.val)))[j]? = some (e.key, e.val) := by rw [List.getElem?_map, h2]; rfl
    rw [r, List.getElem?_map] at hj
    obtain ⟨q, hq, h⟩ := Option.map_eq_some_iff.1 hj
    have hqi : q = i := k.inj q i (lt q (List.mem_of_getElem? hq)) hi ((Prod.mk.inj h).1.trans h3)
    subst hqi
    refine Or.inr ⟨j, hq, ?_, e, by rw [← Array.getElem?_toList]; exact h2, h3⟩
    rw [h1, (Prod.mk.inj h).2]

/-- 'm[k]', 'v, ok := m[k]'. -/
theorem Mf.look {P : Program} {T t e : TypeId} {K : Nat → Value} {N : Nat} (k : KOk P t K N) (hT : P.underlying T = some (.map t e)) {z : Value} (hz : ∀ w, (zeroValue e).run P w = .ok z w) {w : World} {mb : Nat} {L : List Nat} {V : Nat → Value} (h : Mf N K w mb L V) {i : Nat} (hi : i < N) (c : Bool) :
    (Instr.lookup T (.map (some mb)) (K i) c).run P w = .ok (if c then .tuple #[if i ∈ L then V i else z, .bool (decide (i ∈ L))] else if i ∈ L then V i else z) w := by
  obtain ⟨es, cl, hb, r⟩ := h.obj
  obtain ⟨lx, hx⟩ := k.key i hi
  have hck := k.law.check w es.isEmpty hx
  rcases mf_find k h.lt r hi w with ⟨h1, h2⟩ | ⟨j, h1, h2, _⟩
  · cases c <;> simp [Instr.lookup, run_underlying hT, go_obj hb, hck, h2, h1, hz, Result.andThen]
  · have hm := List.mem_of_getElem? h1
    cases c <;> simp [Instr.lookup, run_underlying hT, go_obj hb, hck, h2, hm, Result.andThen]

/-- the keys behind a store; the elements behind a store -/
def putK (L : List Nat) (i : Nat) : List Nat := if i ∈ L then L else L ++ [i]
def putV (V : Nat → Value) (i : Nat) (v : Value) : Nat → Value := fun j => if j = i then v else V j

theorem fr_set (w : World) (mb : Nat) (o : Obj) : Fr (fun k => k = mb) w { w with heap := w.heap.setIfInBounds mb o } :=
  ⟨rfl, rfl, rfl, by simp, fun k _ hn => Array.getElem?_setIfInBounds_ne (fun e => hn e.symm)⟩

theorem Mf.put {P : Program} {T t e : TypeId} {K : Nat → Value} {N : Nat} (k : KOk P t K N) (hT : P.underlying T = some (.map t e)) {w : World} {mb : Nat} {L : List Nat} {V : Nat → Value} (h : Mf N K w mb L V) {i : Nat} (hi : i < N) (v : Value) :
    ∃ w', (Instr.mapUpdate T (.map (some mb)) (K i) v).run P w = .ok () w' ∧ Mf N K w' mb (putK L i) (putV V i v) ∧ Fr (fun k => k = mb) w w' := by
  obtain ⟨es, cl, hb, r⟩ := h.obj
  obtain ⟨lx, hx⟩ := k.key i hi
  have hck := k.law.check w false hx
  have hlt := h.ltb
  rcases mf_find k h.lt r hi w with ⟨h1, h2⟩ | ⟨j, h1, h2, en, h3, h4⟩
  · refine ⟨{ w with heap := w.heap.setIfInBounds mb (.map (es.push { key := K i, val := v, born := cl }) (cl + 1)) }, ?_, ⟨⟨es.push { key := K i, val := v, born := cl }, cl + 1, ?_, ?_⟩, ?_, ?_⟩, fr_set _ _ _⟩
    · simp [Instr.mapUpdate, run_underlying hT, go_obj hb, hck, h2, so_obj hb, Result.andThen]
    · simp [hlt]
    · simp only [putK, if_neg h1, Array.toList_push, List.map_append, List.map_cons, List.map_nil]
      rw [r]
      congr 1
      · refine List.map_congr_left (fun q hq => ?_)
        simp [putV, show q ≠ i from fun e => h1 (e ▸ hq)]
      · simp [putV]
    · simp only [putK, if_neg h1]
      refine List.nodup_append.2 ⟨h.nd, by simp, fun a ha b hb e => ?_⟩
      simp at hb
      subst hb
      exact h1 (e ▸ ha)
    · simp only [putK, if_neg h1]
      intro x hx
      rcases List.mem_append.1 hx with hx | hx
      · exact h.lt x hx
      · simp at hx; subst hx; exact hi
  · have hm := List.mem_of_getElem? h1
    have hst := k.law.stays w hx
    refine ⟨{ w with heap := w.heap.setIfInBounds mb (.map (es.modify j fun e => { e with key := K i, val := v }) cl) }, ?_, ⟨⟨es.modify j fun e => { e with key := K i, val := v }, cl, by simp [hlt], ?_⟩, ?_, ?_⟩, fr_set _ _ _⟩
    · simp [Instr.mapUpdate, run_underlying hT, go_obj hb, hck, h2, h3, h4, hst, so_obj hb, Result.andThen]
    · simp only [putK, if_pos hm]
      apply List.ext_getElem?
      intro q
      have rq : (es.toList.map (fun e => (e.key, e.val)))[q]? = (L.map (fun i => (K i, V i)))[q]? := by rw [r]
      simp only [List.getElem?_map, Array.getElem?_toList, Array.getElem?_modify] at rq ⊢
      by_cases hq : j = q
      · subst hq
        simp [h3, h1, putV]
      · simp only [if_neg hq]
        rw [rq]
        cases hL : L[q]? with
        | none => rfl
        | some y =>
          have hy : y ≠ i := fun e => by
            subst e
            have h5 := List.getElem?_eq_some_iff.1 h1
            have h6 := List.getElem?_eq_some_iff.1 hL
            obtain ⟨a1, a2⟩ := h5
            obtain ⟨b1, b2⟩ := h6
            exact hq ((List.getElem_inj h.nd).1 (a2.trans b2.symm))
          simp [putV, hy]
    · simp only [putK, if_pos hm]; exact h.nd
    · simp only [putK, if_pos hm]; exact h.lt

theorem filter_ne_erase (L : List Nat) : ∀ (j i : Nat), L.Nodup → L[j]? = some i → L.filter (fun x => decide (x ≠ i)) = L.eraseIdx j := by
  induction L with
  | nil => intro j i _ h; simp at h
  | cons x t ih =>
    intro j i hnd h
    obtain ⟨hx, hn⟩ := List.nodup_cons.1 hnd
    cases j with
    | zero =>
      simp at h
      subst h
      simp only [List.eraseIdx_cons_zero]
      rw [List.filter_cons_of_neg (by simp)]
      exact List.filter_eq_self.2 (fun y hy => by simp; exact fun e => hx (e ▸ hy))
    | succ j =>
      simp at h
      have hne : x ≠ i := fun e => hx (e ▸ List.mem_of_getElem? h)
      rw [List.filter_cons_of_pos (by simp [hne]), ih j i hn h]
      rfl

theorem map_erase {α β : Type} (f : α → β) (l : List α) : ∀ j, (l.eraseIdx j).map f = (l.map f).eraseIdx j := by
  induction l with
  | nil => intro j; simp
  | cons x t ih =>
    intro j
    cases j with
    | zero => simp
    | succ j => simp [ih]

theorem Mf.del {P : Program} {T t e : TypeId} {K : Nat → Value} {N : Nat} (k : KOk P t K N) (hT : P.underlying T = some (.map t e)) {w : World} {mb : Nat} {L : List Nat} {V : Nat → Value} (h : Mf N K w mb L V) {i : Nat} (hi : i < N) (ty : TypeId) :
    ∃ w', (Builtin.delete_ #[T, t] ty #[.map (some mb), K i]).run P w = .ok (.tuple #[]) w' ∧ Mf N K w' mb (L.filter (fun x => decide (x ≠ i))) V ∧ Fr (fun k => k = mb) w w' := by
  obtain ⟨es, cl, hb, r⟩ := h.obj
  obtain ⟨lx, hx⟩ := k.key i hi
  have hck := k.law.check w es.isEmpty hx
  have hlt := h.ltb
  rcases mf_find k h.lt r hi w with ⟨h1, h2⟩ | ⟨j, h1, h2, en, h3, h4⟩
  · refine ⟨{ w with heap := w.heap.setIfInBounds mb (.map es cl) }, ?_, ⟨⟨es, cl, by simp [hlt], ?_⟩, ?_, ?_⟩, fr_set _ _ _⟩
    · simp [Builtin.delete_, run_underlying hT, go_obj hb, hck, h2, so_obj hb, Result.andThen]
    · rw [r, List.filter_eq_self.2 (fun x hx => by simp; exact fun e => h1 (e ▸ hx))]
    · exact h.nd.sublist List.filter_sublist
    · intro x hx; exact h.lt x (List.mem_filter.1 hx).1
  · refine ⟨{ w with heap := w.heap.setIfInBounds mb (.map (es.eraseIdxIfInBounds j) cl) }, ?_, ⟨⟨es.eraseIdxIfInBounds j, cl, by simp [hlt], ?_⟩, ?_, ?_⟩, fr_set _ _ _⟩
    · simp [Builtin.delete_, run_underlying hT, go_obj hb, hck, h2, so_obj hb, Result.andThen]
    · have hjl : j < L.length := (List.getElem?_eq_some_iff.1 h1).1
      have he := filter_ne_erase L j i h.nd h1
      have hlen : es.size = L.length := by
        have := congrArg List.length r
        simpa using this
      rw [he, Array.eraseIdxIfInBounds_eq, dif_pos (by omega), Array.toList_eraseIdx, map_erase, r, ← map_erase]
    · exact h.nd.sublist List.filter_sublist
    · intro x hx; exact h.lt x (List.mem_filter.1 hx).1

theorem Mf.len {P : Program} {T t e : TypeId} {K : Nat → Value} {N : Nat} (hT : P.underlying T = some (.map t e)) {w : World} {mb : Nat} {L : List Nat} {V : Nat → Value} (h : Mf N K w mb L V) (ty : TypeId) :
    (Builtin.len_ #[T] ty #[.map (some mb)]).run P w = .ok (.int .i64 L.length) w := by
  obtain ⟨es, cl, hb, r⟩ := h.obj
  have hlen : es.size = L.length := by
    have := congrArg List.length r
    simpa using this
  simp [Builtin.len_, run_underlying hT, go_obj hb, hlen, Result.andThen, goInt]

end Go.Proofs.Ybulkomi
