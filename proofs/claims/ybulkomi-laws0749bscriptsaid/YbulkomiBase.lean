/-
  Small laws on blocks of cells that a call itself has made; frames; append of one element of several cells. (After this prover's YbulkonkBase, YbulkonkApp, YbulkonkEv1.)
-/
import Derived.Test.YbulkomiProg
import Derived.WalkKit
import Derived.WalkSpells
import Derived.WalkLawsBesides
import Derived.LaidEqlPtr
import Derived.BigQuiet
import Derived.Deep.QuietTactic
import Derived.ArgAppend
import Derived.Deep.RegionLaw
import Derived.Laws.EntriesVeiled
namespace Go.Proofs.Ybulkomi
open Go.RowKit

/-- Block k holds the cells c of type t; none is frozen. -/
def Blk (w : World) (k : Nat) (c : Array Value) (t : TypeId) : Prop := w.heap[k]? = some (.cells c t (0, 0))

theorem Blk.cell {w : World} {k : Nat} {c : Array Value} {t : TypeId} (h : Blk w k c t) (i : Nat) : w.cell? ⟨k, i, none⟩ = c[i]? := by
  unfold Blk at h; simp [World.cell?, h]

theorem Blk.frozen {w : World} {k : Nat} {c : Array Value} {t : TypeId} (h : Blk w k c t) (i : Nat) : w.frozen? ⟨k, i, none⟩ = false := by
  unfold Blk at h; simp [World.frozen?, h]

theorem Blk.lt {w : World} {k : Nat} {c : Array Value} {t : TypeId} (h : Blk w k c t) : k < w.heap.size := by
  unfold Blk at h; exact (Array.getElem?_eq_some_iff.1 h).1

theorem Blk.alloc {w : World} {k : Nat} {c : Array Value} {t : TypeId} (h : Blk w k c t) (o : Obj) : Blk (w.alloc o) k c t := by
  have := h.lt
  unfold Blk at *
  rw [Below.heap_alloc _ _ _ this]; exact h

theorem Blk.drew {w : World} {k : Nat} {c : Array Value} {t : TypeId} (h : Blk w k c t) : Blk w.drew k c t := h
theorem Blk.drewN {w : World} {k : Nat} {c : Array Value} {t : TypeId} (h : Blk w k c t) (n : Nat) : Blk (w.drewN n) k c t := h

theorem Blk.new (w : World) (c : Array Value) (t : TypeId) (k : Nat) (hk : k = w.heap.size) : Blk (w.alloc (.cells c t)) k c t := by
  subst hk
  show (w.heap.push _)[w.heap.size]? = _
  simp

theorem Blk.setOther {w : World} {k : Nat} {c : Array Value} {t : TypeId} (h : Blk w k c t) {a : Addr} (ha : a.block ≠ k) (v : Value) : Blk (w.setCell a v) k c t := by
  unfold Blk at *
  rw [Below.heap_setCell _ _ _ _ (Ne.symm ha)]; exact h

theorem Blk.setSame {w : World} {k : Nat} {c : Array Value} {t : TypeId} (h : Blk w k c t) (i : Nat) (v : Value) : Blk (w.setCell ⟨k, i, none⟩ v) k (c.setIfInBounds i v) t := by
  unfold Blk at *
  simp [World.setCell, Array.getElem?_modify, h]

theorem Blk.below {w w' : World} {B k : Nat} {c : Array Value} {t : TypeId} (h : Blk w k c t) (hb : Below B w w') (hk : k < B) : Blk w' k c t := by
  unfold Blk at *
  rw [hb.block k hk]; exact h

theorem below_drewN {B : Nat} {w w' : World} (h : Below B w w') (n : Nat) : Below B w (w'.drewN n) := ⟨h.os, h.tape, h.output, h.size, h.block⟩


theorem own_ne {w : World} {lo lg sz : Nat} {e t : TypeId} {v : Value} {n : Nat} {xs : List Value} {c : Array Value} (h : w.ownsRow lo e sz v n xs) (hb : Blk w lg c t) (ht : t ≠ e) : v.ownBlock ≠ some lg := by
  rcases h.2 with ⟨rfl, _⟩ | ⟨g, cap, cur, rfl, _, hg, _⟩
  · simp [Value.ownBlock]
  · simp [Value.ownBlock]
    intro e1
    subst e1
    unfold Blk at hb
    rw [hb] at hg
    simp at hg
    exact ht hg.2

theorem blk_ne {w : World} {i j : Nat} {c d : Array Value} {s t : TypeId} (h : Blk w i c s) (k : Blk w j d t) (ht : s ≠ t) : i ≠ j := by
  intro e; subst e; unfold Blk at h k; rw [h] at k; simp at k; exact ht k.2

theorem ownsRow_mono {w : World} {b b' : Nat} {e : TypeId} {size : Nat} {v : Value} {n : Nat} {xs : List Value} (h : w.ownsRow b e size v n xs) (hb : b' ≤ b) : w.ownsRow b' e size v n xs := by
  obtain ⟨h1, h2⟩ := h
  refine ⟨h1, ?_⟩
  rcases h2 with h2 | ⟨g, cap, cur, hv, hg, r⟩
  · exact Or.inl h2
  · exact Or.inr ⟨g, cap, cur, hv, Nat.le_trans hb hg, r⟩

theorem own_shape {w : World} {lo sz : Nat} {e : TypeId} {v : Value} {n : Nat} {xs : List Value} (h : w.ownsRow lo e sz v n xs) : ∃ ao c, v = .slice ao n c ∧ (0 < n → ∃ g, ao = some ⟨g, 0, none⟩ ∧ lo ≤ g) := by
  rcases h.2 with ⟨rfl, rfl⟩ | ⟨g, cap, cur, rfl, hg, _⟩
  · exact ⟨none, 0, rfl, fun h => by omega⟩
  · exact ⟨_, cap, rfl, fun _ => ⟨g, rfl, hg⟩⟩

/-- An owned row, its block written out. -/
theorem own_blk {w : World} {lo sz : Nat} {e : TypeId} {g n cap : Nat} {xs : List Value} (h : w.ownsRow lo e sz (.slice (some ⟨g, 0, none⟩) n cap) n xs) : ∃ cur, Blk w g cur e ∧ lo ≤ g ∧ n ≤ cap ∧ cap ≤ maxLen ∧ cur.size = cap * sz ∧ cur.toList.take (n * sz) = xs := by
  rcases h.2 with ⟨h0, _⟩ | ⟨g', cap', cur, hv, hg, hh, h1, h2, h3, h4⟩
  · simp at h0
  · simp at hv
    obtain ⟨rfl, rfl⟩ := hv
    exact ⟨cur, hh, hg, h1, h2, h3, h4⟩

theorem own_set {w : World} {lo sz : Nat} {e : TypeId} {v : Value} {n : Nat} {xs : List Value} (h : w.ownsRow lo e sz v n xs) {a : Addr} (ha : v.ownBlock ≠ some a.block) (u : Value) : (w.setCell a u).ownsRow lo e sz v n xs := by
  refine ⟨h.1, ?_⟩
  rcases h.2 with h0 | ⟨g, cap, cur, rfl, hg, hh, r⟩
  · exact Or.inl h0
  · refine Or.inr ⟨g, cap, cur, rfl, hg, ?_, r⟩
    rw [Below.heap_setCell _ _ _ _ (by intro e1; apply ha; simp [Value.ownBlock, e1])]
    exact hh

theorem setRow_blk {w : World} {g : Nat} {c c' : Array Value} {t : TypeId} (h : Blk w g c t) : Blk (w.setRow g c') g c' t := setRow_heap w g c c' t _ h
theorem setRow_blk_other {w : World} {g k : Nat} {c c' : Array Value} {t : TypeId} (h : Blk w k c t) (hk : k ≠ g) : Blk (w.setRow g c') k c t := by
  unfold Blk at *; rw [setRow_other w g k c' hk]; exact h

/-- Of the blocks that were there only those in S have turned. -/
structure Fr (S : Nat → Prop) (w w' : World) : Prop where
  os : w'.os = w.os
  tape : w'.tape = w.tape
  output : w'.output = w.output
  size : w.heap.size ≤ w'.heap.size
  block : ∀ k, k < w.heap.size → ¬ S k → w'.heap[k]? = w.heap[k]?

theorem Fr.refl (S : Nat → Prop) (w : World) : Fr S w w := ⟨rfl, rfl, rfl, Nat.le_refl _, fun _ _ _ => rfl⟩
theorem Fr.trans {S : Nat → Prop} {a b c : World} (h : Fr S a b) (k : Fr S b c) : Fr S a c := ⟨k.os.trans h.os, k.tape.trans h.tape, k.output.trans h.output, Nat.le_trans h.size k.size, fun i hi hs => (k.block i (Nat.lt_of_lt_of_le hi h.size) hs).trans (h.block i hi hs)⟩
/-- the second step may touch new blocks too -/
theorem Fr.trans' {S T : Nat → Prop} {a b c : World} (h : Fr S a b) (k : Fr T b c) (hT : ∀ i, i < a.heap.size → T i → S i) : Fr S a c := ⟨k.os.trans h.os, k.tape.trans h.tape, k.output.trans h.output, Nat.le_trans h.size k.size, fun i hi hs => (k.block i (Nat.lt_of_lt_of_le hi h.size) (fun t => hs (hT i hi t))).trans (h.block i hi hs)⟩
theorem Fr.mono {S T : Nat → Prop} {a b : World} (h : Fr S a b) (hs : ∀ k, S k → T k) : Fr T a b := ⟨h.os, h.tape, h.output, h.size, fun k hk ht => h.block k hk (fun s => ht (hs k s))⟩
theorem Fr.alloc {S : Nat → Prop} {a b : World} (h : Fr S a b) (o : Obj) : Fr S a (b.alloc o) := ⟨h.os, h.tape, h.output, by have := h.size; simp; omega, fun k hk hs => by rw [Below.heap_alloc _ _ _ (by have := h.size; omega)]; exact h.block k hk hs⟩
theorem Fr.drew {S : Nat → Prop} {a b : World} (h : Fr S a b) : Fr S a b.drew := ⟨h.os, h.tape, h.output, h.size, h.block⟩
theorem Fr.drewN {S : Nat → Prop} {a b : World} (h : Fr S a b) (n : Nat) : Fr S a (b.drewN n) := ⟨h.os, h.tape, h.output, h.size, h.block⟩
theorem Fr.setCell {S : Nat → Prop} {a b : World} (h : Fr S a b) {p : Addr} (hp : a.heap.size ≤ p.block ∨ S p.block) (v : Value) : Fr S a (b.setCell p v) := ⟨h.os, h.tape, h.output, by simpa using h.size, fun k hk hs => by
  have hne : k ≠ p.block := fun e => hp.elim (fun h0 => by omega) (fun h0 => hs (by rw [e]; exact h0))
  rw [Below.heap_setCell _ _ _ _ (by first | exact hne | exact hne.symm)]; exact h.block k hk hs⟩
theorem Fr.setRow {S : Nat → Prop} {a b : World} (h : Fr S a b) {g : Nat} (hp : a.heap.size ≤ g ∨ S g) (c : Array Value) : Fr S a (b.setRow g c) := ⟨h.os, h.tape, h.output, by simpa using h.size, fun k hk hs => by
  have hne : k ≠ g := fun e => hp.elim (fun h0 => by omega) (fun h0 => hs (by rw [e]; exact h0))
  rw [setRow_other _ _ _ _ (by first | exact hne | exact hne.symm)]; exact h.block k hk hs⟩
theorem Fr.blk {S : Nat → Prop} {w w' : World} (h : Fr S w w') {k : Nat} {c : Array Value} {t : TypeId} (hb : Blk w k c t) (hk : ¬ S k) : Blk w' k c t := by
  have := hb.lt
  unfold Blk at *; rw [h.block k this hk]; exact hb
theorem Fr.below {S : Nat → Prop} {w w' : World} (h : Fr S w w') {B : Nat} (hB : B ≤ w.heap.size) (hS : ∀ k, S k → B ≤ k) : Below B w w' := ⟨h.os, h.tape, h.output, h.size, fun k hk => h.block k (by omega) (fun s => by have := hS k s; omega)⟩
theorem Fr.grown {S : Nat → Prop} {a w w' : World} {row : Option Nat} (h : Fr S a w) (hg : w.grownBy w' row) (hr : ∀ k, row = some k → a.heap.size ≤ k ∨ S k) : Fr S a w' := ⟨hg.os.trans h.os, hg.tape.trans h.tape, hg.output.trans h.output, Nat.le_trans h.size hg.size, fun k hk hs => (hg.block k (Nat.lt_of_lt_of_le hk h.size) (fun e => (hr k e.symm).elim (fun h0 => by omega) (fun h0 => hs h0))).trans (h.block k hk hs)⟩
theorem Fr.own {S : Nat → Prop} {w w' : World} (h : Fr S w w') {lo : Nat} {e : TypeId} {v : Value} {n : Nat} {xs : List Value} {sz : Nat} (ho : w.ownsRow lo e sz v n xs) (hne : ∀ k, v.ownBlock = some k → ¬ S k) : w'.ownsRow lo e sz v n xs := by
  refine ⟨ho.1, ?_⟩
  rcases ho.2 with h0 | ⟨g, cap, cur, rfl, hg, hh, r⟩
  · exact Or.inl h0
  · exact Or.inr ⟨g, cap, cur, rfl, hg, (h.blk (k := g) (t := e) hh (hne g rfl)), r⟩


/-- What an append of one element of sz cells leaves; where the new row lies. -/
structure App (lo : Nat) (e : TypeId) (sz : Nat) (w w' : World) (v v' : Value) (n : Nat) (xs ys : List Value) : Prop where
  own : w'.ownsRow lo e sz v' (n + 1) (xs ++ ys)
  grown : w.grownBy w' v.ownBlock
  where_ : ∃ g cap, v' = .slice (some ⟨g, 0, none⟩) (n + 1) cap ∧ (v.ownBlock = some g ∨ w.heap.size ≤ g)

theorem run_append1 {P : Program} (w : World) {t e : TypeId} (ty : TypeId) {z : Value} {sz bytes : Nat} (ht : P.underlying t = some (.slice e)) (hinfo : (P.info? e).map (fun i => (i.zero, i.size, i.bytes)) = some (some z, sz, bytes)) (hzs : z.cells.size = sz) (hsz : 0 < sz)
    {lo n : Nat} {v : Value} {xs ys : List Value} (hown : w.ownsRow lo e sz v n xs) (hlo : lo ≤ w.heap.size) (ad : Addr) (c : Nat) (hl : ys.length = sz) (hnews : ∀ j u, ys[j]? = some u → w.cell? (ad.add j) = some u) (h1c : ∀ u ∈ ys, u.oneCell' = true) (hn : n + 1 ≤ maxLen) (hb : (n + 1) * bytes ≤ 140737488355328) :
    ∃ v' w', (Builtin.append_ #[t, t] ty #[v, .slice (some ad) 1 c]).run P w = .ok v' w' ∧ App lo e sz w w' v v' n xs ys := by
  obtain ⟨i, hi, hz, hs, hby⟩ := info_parts hinfo
  have hl' : ys.length = 1 * sz := by omega
  rcases hown.2 with ⟨rfl, rfl⟩ | ⟨g, cap, cur, rfl, hg, hgg, hnc, hcm, hcs, htake⟩
  · have hx0 : xs = [] := List.eq_nil_of_length_eq_zero (by simpa using hown.1)
    subst hx0
    obtain ⟨v', w', hr, ho, hgr, hnil⟩ := run_append_own (P := P) w w.heap.size t ty e i z sz bytes ht hi hz hs hby hzs hsz _ 0 [] (World.ownsRow_nil w w.heap.size e sz) ad 1 c ys hl' hnews h1c hn hb (Nat.le_refl _)
    refine ⟨v', w', hr, ⟨ownsRow_mono ho hlo, hgr, ?_⟩⟩
    rcases ho.2 with ⟨_, h0⟩ | ⟨g, cap, cur, hv, hg, _⟩
    · omega
    · exact ⟨g, cap, hv, Or.inr hg⟩
  · by_cases hroom : n + 1 ≤ cap
    · obtain ⟨w', hr, ho, hgr⟩ := run_append_fits (P := P) w lo t ty e i sz ht hi hs g n cap xs hown ad 1 c ys hl' hnews h1c hroom
      exact ⟨_, w', hr, ⟨ho, hgr, ⟨g, cap, rfl, Or.inl rfl⟩⟩⟩
    · have holds := hown.cells (g := g) rfl
      obtain ⟨v', w', hr, ho, hgr⟩ := run_append_arg_grows (P := P) w t ty e i z sz bytes ht hi hz hs hby hzs hsz ⟨g, 0, none⟩ n cap xs hown.1 holds ad 1 c ys hl' hnews (by omega) hn hb
      refine ⟨v', w', hr, ⟨ownsRow_mono ho hlo, ⟨hgr.os, hgr.tape, hgr.output, hgr.size, fun k hk _ => hgr.block k hk (by simp)⟩, ?_⟩⟩
      rcases ho.2 with ⟨_, h0⟩ | ⟨g', cap', cur', hv, hg', _⟩
      · omega
      · exact ⟨g', cap', hv, Or.inr hg'⟩

/-- .. as a law of the plain walk. -/
theorem wpList_append1 {P : Program} (w : World) {ops : Array Oper} {rest : List Oper} {o : Oper} {a : Act} {Q : Exit → Act → World → Prop}
    (hg : o.guard = none) (s x : Operand) (t : TypeId) (hop : o.op = Op.call { callee := Callee.builtin Builtin.append, args := #[s, x], argTypes := #[t, t] })
    {e : TypeId} {z : Value} {sz bytes : Nat} (ht : P.underlying t = some (.slice e)) (hinfo : (P.info? e).map (fun i => (i.zero, i.size, i.bytes)) = some (some z, sz, bytes)) (hzs : z.cells.size = sz) (hsz : 0 < sz)
    {lo n : Nat} {v : Value} {xs ys : List Value} (hs : a.eval s = v) (hown : w.ownsRow lo e sz v n xs) (hlo : lo ≤ w.heap.size) {ad : Addr} {c : Nat} (hx : a.eval x = .slice (some ad) 1 c) (hl : ys.length = sz) (hnews : ∀ j u, ys[j]? = some u → w.cell? (ad.add j) = some u) (h1c : ∀ u ∈ ys, u.oneCell' = true) (hn : n + 1 ≤ maxLen) (hb : (n + 1) * bytes ≤ 140737488355328)
    (hK : ∀ g cap w', App lo e sz w w' v (.slice (some ⟨g, 0, none⟩) (n + 1) cap) n xs ys → wpList P ops Q rest (a.put o.dst (.slice (some ⟨g, 0, none⟩) (n + 1) cap)) w') :
    wpList P ops Q (o :: rest) a w := by
  refine wpList_plain hg fun K hK' => ?_
  obtain ⟨v', w', hr, hA⟩ := run_append1 (P := P) w o.type ht hinfo hzs hsz hown hlo ad c hl hnews h1c hn hb
  unfold Oper.wp
  simp [execOp, hop, resolve, invoke, builtin, hs, hx, hr, Result.andThen]
  obtain ⟨g, cap, hv, hw⟩ := hA.where_
  subst hv
  exact hK' _ _ (hK g cap w' hA)

/-- .. as a step of a region that draws. -/
theorem step_append1 {P : Program} {ops : Array Oper} {o : Oper} {a : Act} {w : World} {K : Act → World → Prop} {Q : Exit → Act → World → Prop} {E : Prop}
    (hg : o.guard = none) (s x : Operand) (t : TypeId) (hop : o.op = Op.call { callee := Callee.builtin Builtin.append, args := #[s, x], argTypes := #[t, t] })
    {e : TypeId} {z : Value} {sz bytes : Nat} (ht : P.underlying t = some (.slice e)) (hinfo : (P.info? e).map (fun i => (i.zero, i.size, i.bytes)) = some (some z, sz, bytes)) (hzs : z.cells.size = sz) (hsz : 0 < sz)
    {lo n : Nat} {v : Value} {xs ys : List Value} (hs : a.eval s = v) (hown : w.ownsRow lo e sz v n xs) (hlo : lo ≤ w.heap.size) {ad : Addr} {c : Nat} (hx : a.eval x = .slice (some ad) 1 c) (hl : ys.length = sz) (hnews : ∀ j u, ys[j]? = some u → w.cell? (ad.add j) = some u) (h1c : ∀ u ∈ ys, u.oneCell' = true) (hn : n + 1 ≤ maxLen) (hb : (n + 1) * bytes ≤ 140737488355328)
    (hK : ∀ g cap w', App lo e sz w w' v (.slice (some ⟨g, 0, none⟩) (n + 1) cap) n xs ys → K (a.put o.dst (.slice (some ⟨g, 0, none⟩) (n + 1) cap)) w') :
    if Region.wanted o (yielded ops a.tmps) = true then Oper.wp P o a w K Q else E := by
  have hw : Region.wanted o (yielded ops a.tmps) = true := by simp [Region.wanted, hg]
  rw [if_pos hw]
  obtain ⟨v', w', hr, hA⟩ := run_append1 (P := P) w o.type ht hinfo hzs hsz hown hlo ad c hl hnews h1c hn hb
  unfold Oper.wp
  simp [execOp, hop, resolve, invoke, builtin, hs, hx, hr, Result.andThen]
  obtain ⟨g, cap, hv, hw⟩ := hA.where_
  subst hv
  exact hK g cap w' hA

theorem App.blk {lo sz : Nat} {e : TypeId} {w w' : World} {v v' : Value} {n : Nat} {xs ys : List Value} (h : App lo e sz w w' v v' n xs ys) {k : Nat} {c : Array Value} {t : TypeId} (hb : Blk w k c t) (hk : v.ownBlock ≠ some k) : Blk w' k c t := by
  have := hb.lt
  unfold Blk at *
  rw [h.grown.block k this (Ne.symm hk)]; exact hb

theorem App.undrew {lo sz : Nat} {e : TypeId} {w w' : World} {v v' : Value} {n : Nat} {xs ys : List Value} (h : App lo e sz w.drew w' v v' n xs ys) : App lo e sz w w' v v' n xs ys :=
  ⟨h.own, ⟨h.grown.os, h.grown.tape, h.grown.output, h.grown.size, h.grown.block⟩, h.where_⟩

theorem cell_row {w : World} {g : Nat} {cy : Array Value} {t : TypeId} (h : Blk w g cy t) {j : Nat} {u : Value} (hc : cy[j]? = some u) : w.cell? ((⟨g, 0, none⟩ : Addr).add j) = some u := by
  have := (h.cell j).trans hc
  by_cases hj : j = 0
  · subst hj; simpa [Addr.add] using this
  · simpa [Addr.add, hj] using this

end Go.Proofs.Ybulkomi
