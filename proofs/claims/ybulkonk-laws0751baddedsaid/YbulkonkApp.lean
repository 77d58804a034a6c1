/-
  'append(s, x)' of one element onto a slice of the call's own, one cell an element: what it makes of the world, WHERE the new row lies told too; as a law of the plain walk and as a step of a region that draws.
-/
import Derived.Test.YbulkonkBase
import Derived.ArgAppend
import Derived.Deep.RegionLaw
namespace Go.Proofs.Ybulkonk
open Go.RowKit

theorem ownsRow_mono {w : World} {b b' : Nat} {e : TypeId} {size : Nat} {v : Value} {n : Nat} {xs : List Value} (h : w.ownsRow b e size v n xs) (hb : b' ≤ b) : w.ownsRow b' e size v n xs := by
  obtain ⟨h1, h2⟩ := h
  refine ⟨h1, ?_⟩
  rcases h2 with h2 | ⟨g, cap, cur, hv, hg, r⟩
  · exact Or.inl h2
  · exact Or.inr ⟨g, cap, cur, hv, Nat.le_trans hb hg, r⟩

/-- What one append leaves: the new value, its row; the old row alone may have been written; the new row is the old one, or new. -/
structure App (lo : Nat) (e : TypeId) (w w' : World) (v v' : Value) (n : Nat) (xs : List Value) (x : Value) : Prop where
  own : w'.ownsRow lo e 1 v' (n + 1) (xs ++ [x])
  grown : w.grownBy w' v.ownBlock
  where_ : ∃ g cap, v' = .slice (some ⟨g, 0, none⟩) (n + 1) cap ∧ (v.ownBlock = some g ∨ w.heap.size ≤ g)

theorem run_append1 {P : Program} (w : World) {t e : TypeId} (ty : TypeId) {z : Value} {bytes : Nat} (ht : P.underlying t = some (.slice e)) (hinfo : (P.info? e).map (fun i => (i.zero, i.size, i.bytes)) = some (some z, 1, bytes)) (hzs : z.cells.size = 1)
    {lo n : Nat} {v : Value} {xs : List Value} (hown : w.ownsRow lo e 1 v n xs) (hlo : lo ≤ w.heap.size) (ad : Addr) (c : Nat) {x : Value} (hx : w.cell? ad = some x) (h1 : x.oneCell' = true) (hn : n + 1 ≤ maxLen) (hb : (n + 1) * bytes ≤ 140737488355328) :
    ∃ v' w', (Builtin.append_ #[t, t] ty #[v, .slice (some ad) 1 c]).run P w = .ok v' w' ∧ App lo e w w' v v' n xs x := by
  obtain ⟨i, hi, hz, hs, hby⟩ := info_parts hinfo
  have hnews : ∀ j u, [x][j]? = some u → w.cell? (ad.add j) = some u := by
    intro j u hu
    match j, hu with
    | 0, hu => simp at hu; subst hu; simpa [Addr.add] using hx
  have h1c : ∀ u ∈ [x], u.oneCell' = true := by
    intro u hu; simp at hu; subst hu; exact h1
  rcases hown.2 with ⟨rfl, rfl⟩ | ⟨g, cap, cur, rfl, hg, hgg, hnc, hcm, hcs, htake⟩
  · have hx0 : xs = [] := List.eq_nil_of_length_eq_zero (by simpa using hown.1)
    subst hx0
    obtain ⟨v', w', hr, ho, hgr, hnil⟩ := run_append_own (P := P) w w.heap.size t ty e i z 1 bytes ht hi hz hs hby hzs (by omega) _ 0 [] (World.ownsRow_nil w w.heap.size e 1) ad 1 c [x] rfl hnews h1c hn hb (Nat.le_refl _)
    refine ⟨v', w', hr, ⟨ownsRow_mono ho hlo, hgr, ?_⟩⟩
    rcases ho.2 with ⟨_, h0⟩ | ⟨g, cap, cur, hv, hg, _⟩
    · omega
    · exact ⟨g, cap, hv, Or.inr hg⟩
  · by_cases hroom : n + 1 ≤ cap
    · obtain ⟨w', hr, ho, hgr⟩ := run_append_fits (P := P) w lo t ty e i 1 ht hi hs g n cap xs hown ad 1 c [x] rfl hnews h1c hroom
      exact ⟨_, w', hr, ⟨ho, hgr, ⟨g, cap, rfl, Or.inl rfl⟩⟩⟩
    · have holds := hown.cells (g := g) rfl
      obtain ⟨v', w', hr, ho, hgr⟩ := run_append_arg_grows (P := P) w t ty e i z 1 bytes ht hi hz hs hby hzs (by omega) ⟨g, 0, none⟩ n cap xs hown.1 holds ad 1 c [x] rfl hnews (by omega) hn hb
      refine ⟨v', w', hr, ⟨ownsRow_mono ho hlo, ⟨hgr.os, hgr.tape, hgr.output, hgr.size, fun k hk _ => hgr.block k hk (by simp)⟩, ?_⟩⟩
      rcases ho.2 with ⟨_, h0⟩ | ⟨g', cap', cur', hv, hg', _⟩
      · omega
      · exact ⟨g', cap', hv, Or.inr hg'⟩

/-- .. as a law of the plain walk. -/
theorem wpList_append1 {P : Program} (w : World) {ops : Array Oper} {rest : List Oper} {o : Oper} {a : Act} {Q : Exit → Act → World → Prop}
    (hg : o.guard = none) (s x : Operand) (t : TypeId) (hop : o.op = Op.call { callee := Callee.builtin Builtin.append, args := #[s, x], argTypes := #[t, t] })
    {e : TypeId} {z : Value} {bytes : Nat} (ht : P.underlying t = some (.slice e)) (hinfo : (P.info? e).map (fun i => (i.zero, i.size, i.bytes)) = some (some z, 1, bytes)) (hzs : z.cells.size = 1)
    {lo n : Nat} {v : Value} {xs : List Value} (hs : a.eval s = v) (hown : w.ownsRow lo e 1 v n xs) (hlo : lo ≤ w.heap.size) {ad : Addr} {c : Nat} (hx : a.eval x = .slice (some ad) 1 c) {y : Value} (hc : w.cell? ad = some y) (h1 : y.oneCell' = true) (hn : n + 1 ≤ maxLen) (hb : (n + 1) * bytes ≤ 140737488355328)
    (hK : ∀ g cap w', App lo e w w' v (.slice (some ⟨g, 0, none⟩) (n + 1) cap) n xs y → wpList P ops Q rest (a.put o.dst (.slice (some ⟨g, 0, none⟩) (n + 1) cap)) w') :
    wpList P ops Q (o :: rest) a w := by
  refine wpList_plain hg fun K hK' => ?_
  obtain ⟨v', w', hr, hA⟩ := run_append1 (P := P) w o.type ht hinfo hzs hown hlo ad c hc h1 hn hb
  unfold Oper.wp
  simp [execOp, hop, resolve, invoke, builtin, hs, hx, hr, Result.andThen]
  obtain ⟨g, cap, hv, hw⟩ := hA.where_
  subst hv
  exact hK' _ _ (hK g cap w' hA)

/-- .. as a step of a region that draws. -/
theorem step_append1 {P : Program} {ops : Array Oper} {o : Oper} {a : Act} {w : World} {K : Act → World → Prop} {Q : Exit → Act → World → Prop} {E : Prop}
    (hg : o.guard = none) (s x : Operand) (t : TypeId) (hop : o.op = Op.call { callee := Callee.builtin Builtin.append, args := #[s, x], argTypes := #[t, t] })
    {e : TypeId} {z : Value} {bytes : Nat} (ht : P.underlying t = some (.slice e)) (hinfo : (P.info? e).map (fun i => (i.zero, i.size, i.bytes)) = some (some z, 1, bytes)) (hzs : z.cells.size = 1)
    {lo n : Nat} {v : Value} {xs : List Value} (hs : a.eval s = v) (hown : w.ownsRow lo e 1 v n xs) (hlo : lo ≤ w.heap.size) {ad : Addr} {c : Nat} (hx : a.eval x = .slice (some ad) 1 c) {y : Value} (hc : w.cell? ad = some y) (h1 : y.oneCell' = true) (hn : n + 1 ≤ maxLen) (hb : (n + 1) * bytes ≤ 140737488355328)
    (hK : ∀ g cap w', App lo e w w' v (.slice (some ⟨g, 0, none⟩) (n + 1) cap) n xs y → K (a.put o.dst (.slice (some ⟨g, 0, none⟩) (n + 1) cap)) w') :
    if Region.wanted o (yielded ops a.tmps) = true then Oper.wp P o a w K Q else E := by
  have hw : Region.wanted o (yielded ops a.tmps) = true := by simp [Region.wanted, hg]
  rw [if_pos hw]
  obtain ⟨v', w', hr, hA⟩ := run_append1 (P := P) w o.type ht hinfo hzs hown hlo ad c hc h1 hn hb
  unfold Oper.wp
  simp [execOp, hop, resolve, invoke, builtin, hs, hx, hr, Result.andThen]
  obtain ⟨g, cap, hv, hw⟩ := hA.where_
  subst hv
  exact hK g cap w' hA

theorem App.below {lo : Nat} {e : TypeId} {w w' : World} {v v' : Value} {n : Nat} {xs : List Value} {x : Value} (h : App lo e w w' v v' n xs x) {B : Nat} {w0 : World} (hb : Below B w0 w) (hB : B ≤ w.heap.size) (hv : ∀ k, v.ownBlock = some k → B ≤ k) : Below B w0 w' :=
  hb.grown h.grown hB hv

theorem App.blk {lo : Nat} {e : TypeId} {w w' : World} {v v' : Value} {n : Nat} {xs : List Value} {x : Value} (h : App lo e w w' v v' n xs x) {k : Nat} {c : Array Value} {t : TypeId} (hb : Blk w k c t) (hk : v.ownBlock ≠ some k) : Blk w' k c t := by
  have := hb.lt
  unfold Blk at *
  rw [h.grown.block k this (Ne.symm hk)]; exact hb

end Go.Proofs.Ybulkonk
