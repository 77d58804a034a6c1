/-
  Small laws on blocks of cells that a call itself has made: 'Blk w k c t': block k holds the cells c, none frozen.
-/
import Derived.Test.YbulkonkProg
import Derived.WalkKit
import Derived.WalkSpells
import Derived.WalkLawsBesides
import Derived.LaidEqlPtr
import Derived.BigQuiet
import Derived.Deep.QuietTactic
namespace Go.Proofs.Ybulkonk
open Go.RowKit

/-- Block k holds the cells c of type t; none is frozen. -/
def Blk (w : World) (k : Nat) (c : Array Value) (t : TypeId) : Prop := w.heap[k]? = some (.cells c t (0, 0))

theorem Blk.cell {w : World} {k : Nat} {c : Array Value} {t : TypeId} (h : Blk w k c t) (i : Nat) : w.cell? ⟨k, i, none⟩ = c[i]? := by
  unfold Blk at h; simp [World.cell?, h]

theorem Blk.frozen {w : World} {k : Nat} {c : Array Value} {t : TypeId} (h : Blk w k c t) (i : Nat) : w.frozen? ⟨k, i, none⟩ = false := by
  unfold Blk at h; simp [World.frozen?, h]

theorem Blk.lt {w : World} {k : Nat} {c : Array Value} {t : TypeId} (h : Blk w k c t) : k < w.heap.size := by
  unfold Blk at h; exact (Array.getElem?_eq_some_iff.1 h).1

theorem Blk.alloc {w : World} {k : Nat} {c : Array Value} {t : TypeId} (h : Blk w k c t) (o : Obj) : Blk (w.alloc o) k c t := by
  have := h.lt
  unfold Blk at *
  rw [Below.heap_alloc _ _ _ this]; exact h

theorem Blk.drew {w : World} {k : Nat} {c : Array Value} {t : TypeId} (h : Blk w k c t) : Blk w.drew k c t := h
theorem Blk.drewN {w : World} {k : Nat} {c : Array Value} {t : TypeId} (h : Blk w k c t) (n : Nat) : Blk (w.drewN n) k c t := h

theorem Blk.new (w : World) (c : Array Value) (t : TypeId) (k : Nat) (hk : k = w.heap.size) : Blk (w.alloc (.cells c t)) k c t := by
  subst hk
  show (w.heap.push _)[w.heap.size]? = _
  simp

theorem Blk.setOther {w : World} {k : Nat} {c : Array Value} {t : TypeId} (h : Blk w k c t) {a : Addr} (ha : a.block ≠ k) (v : Value) : Blk (w.setCell a v) k c t := by
  unfold Blk at *
  rw [Below.heap_setCell _ _ _ _ (Ne.symm ha)]; exact h

theorem Blk.setSame {w : World} {k : Nat} {c : Array Value} {t : TypeId} (h : Blk w k c t) (i : Nat) (v : Value) : Blk (w.setCell ⟨k, i, none⟩ v) k (c.setIfInBounds i v) t := by
  unfold Blk at *
  simp [World.setCell, Array.getElem?_modify, h]

theorem Blk.below {w w' : World} {B k : Nat} {c : Array Value} {t : TypeId} (h : Blk w k c t) (hb : Below B w w') (hk : k < B) : Blk w' k c t := by
  unfold Blk at *
  rw [hb.block k hk]; exact h

theorem below_drewN {B : Nat} {w w' : World} (h : Below B w w') (n : Nat) : Below B w (w'.drewN n) := ⟨h.os, h.tape, h.output, h.size, h.block⟩

end Go.Proofs.Ybulkonk
