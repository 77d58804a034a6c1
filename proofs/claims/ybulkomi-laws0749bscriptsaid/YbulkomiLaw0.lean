/-
  The script law: the loops of its body; its arrays on the heap; small laws.
-/
import Derived.Test.YbulkomiSameS
import Derived.BigRegion
import Derived.Deep.LoopGhost
import Derived.Deep.Light
namespace Go.Proofs.Ybulkomi
open Go.RowKit

/-- The loops of a code, each with its 'loop' word, the outer ones first. -/
def loopsOf : Code → List Code
  | .loop c => .loop c :: loopsOf c
  | .seq a b => loopsOf a ++ loopsOf b
  | .block _ c => loopsOf c
  | .scope c => loopsOf c
  | .cond _ a b => loopsOf a ++ loopsOf b
  | _ => []

/-- What holds where a code is left by 'leave block n'; it is left in no other way. -/
def exitOnly (n : Nat) (E : Act → World → Prop) : Exit → Act → World → Prop
  | .exit m, a, w => m = n ∧ E a w
  | _, _, _ => False

theorem wp_exitOnly {P : Program} {s : Code} {n : Nat} {Q : Exit → Act → World → Prop} {a : Act} {w : World} (h : s.wp P (exitOnly n (Q (.exit n))) a w) : s.wp P Q a w := by
  refine wp_mono h ?_
  intro e a' w' hq
  cases e with
  | exit m => obtain ⟨rfl, h⟩ := hq; exact h
  | normal => exact hq.elim
  | goto l => exact hq.elim
  | ret => exact hq.elim
  | panic ch => exact hq.elim
  | outgrown => exact hq.elim

/-- A row of bytes that came in. -/
def BRow (B : Nat) (w : World) (A : Option Addr) (X : List Nat) : Prop := ∀ j, (hj : j < X.length) → ∃ rb ro, A = some ⟨rb, ro, none⟩ ∧ rb < B ∧ rb < w.heap.size ∧ w.cell? ⟨rb, ro + j, none⟩ = some (.int .u8 (X[j] : Nat)) ∧ X[j] < 256
theorem fr_cell {S : Nat → Prop} {w w' : World} (h : Fr S w w') {p : Addr} (hp : p.block < w.heap.size) (hs : ¬ S p.block) : w'.cell? p = w.cell? p := by
  unfold World.cell?
  rw [h.block p.block hp hs]
theorem BRow.fr {B : Nat} {S : Nat → Prop} {w w' : World} {A : Option Addr} {X : List Nat} (h : BRow B w A X) (hf : Fr S w w') (hS : ∀ k, S k → B ≤ k) : BRow B w' A X := fun j hj => by
  obtain ⟨rb, ro, a, b, c, d, e⟩ := h j hj
  refine ⟨rb, ro, a, b, Nat.lt_of_lt_of_le c hf.size, (fr_cell hf (p := ⟨rb, ro + j, none⟩) c (fun s => by have := hS _ s; simp at this; omega)).trans d, e⟩

/-! ### arrays -/
def arrC (f : Nat → Value) (N : Nat) : Array Value := ((List.range N).map f).toArray
theorem arrC_at (f : Nat → Value) {N k : Nat} (hk : k < N) : (arrC f N)[k]? = some (f k) := by simp [arrC, hk]
theorem arrC_set (f g : Nat → Value) {N k : Nat} {v : Value} (hg : ∀ j, j < N → g j = if j = k then v else f j) : (arrC f N).setIfInBounds k v = arrC g N := by
  apply Array.ext_getElem?
  intro i
  by_cases hi : i < N
  · rw [arrC_at g hi, hg i hi, Array.getElem?_setIfInBounds]
    by_cases e : k = i
    · subst e; simp [arrC, hi]
    · simp [e, arrC, hi, show ¬ i = k from fun x => e x.symm]
  · rw [Array.getElem?_eq_none (by simp [arrC]; omega), Array.getElem?_eq_none (by simp [arrC]; omega)]
def presC (m : Mdl) : Array Value := arrC (fun k => .bool (m.pr k)) 16
def placC (m : Mdl) : Array Value := arrC (fun k => .int .u64 (m.pl k : Nat)) 16
def attC (m : Mdl) : Array Value := arrC (fun k => .bool (m.at_ k)) 4
def logV (m : Mdl) : List Value := m.log.map (fun k => .int .i64 (k : Nat))
def m0 : Mdl := ⟨fun _ => false, fun _ => 0, [], fun _ => false⟩

theorem info3 : (Yba.prog.info? 3).map (fun i => (i.zero, i.size, i.bytes)) = some (some (.int .i64 0), 1, 8) := by kernel_rfl
theorem tm16 (x : Nat) : (x : Int).tmod 16 = ((x % 16 : Nat) : Int) := by rw [Int.tmod_eq_emod_of_nonneg (by omega)]; omega
theorem tm4 (x : Nat) : (x : Int).tmod 4 = ((x % 4 : Nat) : Int) := by rw [Int.tmod_eq_emod_of_nonneg (by omega)]; omega

theorem pres_new (m : Mdl) (k : Nat) : (presC m).setIfInBounds k (.bool true) = presC (mNew m k) := arrC_set _ _ (fun j _ => by simp only [mNew, upB]; split <;> rfl)
theorem plac_new (m : Mdl) (k : Nat) : (placC m).setIfInBounds k (.int .u64 (m.log.length : Nat)) = placC (mNew m k) := arrC_set _ _ (fun j _ => by simp only [mNew, upN]; split <;> rfl)
theorem log_new (m : Mdl) (k : Nat) : logV (mNew m k) = logV m ++ [.int .i64 (k : Nat)] := by simp [logV, mNew]
theorem pres_rem (m : Mdl) (k : Nat) : (presC m).setIfInBounds k (.bool false) = presC (mRem m k) := arrC_set _ _ (fun j _ => by simp only [mRem, upB]; split <;> rfl)
theorem att_set (m : Mdl) (k : Nat) : (attC m).setIfInBounds k (.bool true) = attC (mSet m k) := arrC_set _ _ (fun j _ => by simp only [mSet, upB]; split <;> rfl)
theorem att_del (m : Mdl) (k : Nat) : (attC m).setIfInBounds k (.bool false) = attC (mDel m k) := arrC_set _ _ (fun j _ => by simp only [mDel, upB]; split <;> rfl)

theorem z30 (w : World) : (zeroValue 30).run Yba.prog w = .ok valV w := by kernel_rfl

/-- one element more in the batch -/
theorem lp_step {ws wr w4 : World} {o1 o2 : Obj} {bb sz i cell : Nat} {e : TypeId} {cs : Array Value} {v v' : Value} {xs ys : List Value} (hb : Blk wr bb cs 48) (he : (48 : TypeId) ≠ e) (hf : Fr (fun k => k = bb) ws wr) (hown : wr.ownsRow ws.heap.size e sz v i xs) (hA : App ws.heap.size e sz ((wr.alloc o1).alloc o2).drew w4 v v' i xs ys) :
    Blk (w4.setCell ⟨bb, cell, none⟩ v') bb (cs.setIfInBounds cell v') 48 ∧ (w4.setCell ⟨bb, cell, none⟩ v').ownsRow ws.heap.size e sz v' (i + 1) (xs ++ ys) ∧ Fr (fun k => k = bb) ws (w4.setCell ⟨bb, cell, none⟩ v') := by
  have hA' := hA.undrew
  have hb4 := hA'.blk ((hb.alloc _).alloc _) (own_ne hown hb he)
  refine ⟨hb4.setSame _ _, own_set hA'.own (own_ne hA'.own hb4 he) _, ?_⟩
  refine (((hf.alloc _).alloc _).grown hA'.grown (fun k hk => Or.inl ?_)).setCell (Or.inr rfl) _
  rcases hown.2 with ⟨rfl, _⟩ | ⟨g, cap, cur, rfl, hg, _⟩
  · simp [Value.ownBlock] at hk
  · simp [Value.ownBlock] at hk
    omega

/-! ### counts -/
def cntP (m : Mdl) (n : Nat) : Nat := ((List.range n).filter m.pr).length
def cntA (m : Mdl) (n : Nat) : Nat := ((List.range n).filter m.at_).length
theorem cntP_succ (m : Mdl) (n : Nat) : cntP m (n + 1) = cntP m n + (if m.pr n = true then 1 else 0) := by
  unfold cntP
  rw [List.range_succ, List.filter_append, List.length_append]
  cases h : m.pr n <;> simp [h]
theorem cntA_succ (m : Mdl) (n : Nat) : cntA m (n + 1) = cntA m n + (if m.at_ n = true then 1 else 0) := by
  unfold cntA
  rw [List.range_succ, List.filter_append, List.length_append]
  cases h : m.at_ n <;> simp [h]
theorem cntP_le (m : Mdl) (n : Nat) : cntP m n ≤ n := by
  have := List.length_filter_le m.pr (List.range n)
  simpa [cntP] using this
theorem cntA_le (m : Mdl) (n : Nat) : cntA m n ≤ n := by
  have := List.length_filter_le m.at_ (List.range n)
  simpa [cntA] using this
theorem len_filter {L : List Nat} {N : Nat} {p : Nat → Bool} (hn : L.Nodup) (hm : ∀ k, k ∈ L ↔ (k < N ∧ p k = true)) : L.length = ((List.range N).filter p).length := by
  refine List.Perm.length_eq ((List.perm_ext_iff_of_nodup hn (List.nodup_range.sublist List.filter_sublist)).2 (fun a => ?_))
  rw [hm, List.mem_filter, List.mem_range]

end Go.Proofs.Ybulkomi
