/-
  Visit with the closure that logs and adds (LawS0751AAddDuring): the state and its steps.
-/
import Derived.Test.YbulkonkOrder
namespace Go.Proofs.Ybulkonk
open Go.RowKit Go.MuLone

def ad (i : Nat) : Value := .iface 45 (.agg #[.int .i64 i])
def adds (m : Nat) : List Value := (List.range m).map ad
theorem adds_succ (m : Nat) : adds (m + 1) = adds m ++ [ad m] := by simp [adds, List.range_succ]
theorem adds_at {m i : Nat} (h : i < m) : (adds m)[i]? = some (ad i) := by simp [adds, h]

/-- The places: lo: what was there when the loop began; pb, lg, cb: the captured variables; b: the bag; g0: its first row. -/
structure Pl where
  lo : Nat
  lg : Nat
  cb : Nat
  b : Nat
  g0 : Nat

structure Pl.ok (p : Pl) : Prop where
  lg : p.lg < p.lo
  cb : p.cb < p.lo
  b : p.b < p.lo
  g0 : p.g0 < p.lo
  n1 : p.lg ≠ p.cb
  n2 : p.lg ≠ p.b
  n3 : p.lg ≠ p.g0
  n4 : p.cb ≠ p.b
  n5 : p.cb ≠ p.g0
  n6 : p.b ≠ p.g0

/-- i errors logged, m added, the lock's word q, the count cn. -/
structure Ad (p : Pl) (w1 : World) (z : Nat → Int) (n i m : Nat) (q cn : Int) (w : World) : Prop where
  os : w.os = w1.os
  tape : w.tape = w1.tape
  output : w.output = w1.output
  size : p.lo ≤ w.heap.size
  st : ∃ lv ev, Blk w p.lg #[lv] 25 ∧ Blk w p.b #[.int .i32 q, .int .u32 0, ev, .nilIface] 40 ∧ w.ownsRow p.lo 28 1 lv i (vals z i) ∧ w.ownsRow 0 28 1 ev (n + m) (vals z n ++ adds m) ∧
    (∀ k, lv.ownBlock = some k → ev.ownBlock ≠ some k) ∧ (∀ k, ev.ownBlock = some k → k = p.g0 ∨ p.lo ≤ k)
  cnt : Blk w p.cb #[.int .i64 cn] 3
  block : ∀ j, j < p.lo → j ≠ p.lg → j ≠ p.b → j ≠ p.cb → j ≠ p.g0 → w.heap[j]? = w1.heap[j]?

theorem Ad.drew {p : Pl} {w1 : World} {z : Nat → Int} {n i m : Nat} {q cn : Int} {w : World} (h : Ad p w1 z n i m q cn w) : Ad p w1 z n i m q cn w.drew := ⟨h.os, h.tape, h.output, h.size, h.st, h.cnt, h.block⟩

/-- An owned row behind a store into another block. -/
theorem own_set {w : World} {lo : Nat} {e : TypeId} {v : Value} {n : Nat} {xs : List Value} (h : w.ownsRow lo e 1 v n xs) {a : Addr} (ha : v.ownBlock ≠ some a.block) (u : Value) : (w.setCell a u).ownsRow lo e 1 v n xs := by
  refine ⟨h.1, ?_⟩
  rcases h.2 with h0 | ⟨g, cap, cur, rfl, hg, hh, r⟩
  · exact Or.inl h0
  · refine Or.inr ⟨g, cap, cur, rfl, hg, ?_, r⟩
    rw [Below.heap_setCell _ _ _ _ (by intro e1; apply ha; simp [Value.ownBlock, e1])]
    exact hh

/-- An owned row behind an append to another. -/
theorem own_app {lo lo' : Nat} {e : TypeId} {w w' : World} {v v' u : Value} {n k : Nat} {xs ys : List Value} {x : Value} (hA : App lo e w w' v v' n xs x) (h : w.ownsRow lo' e 1 u k ys) (hne : u.ownBlock = none ∨ u.ownBlock ≠ v.ownBlock) : w'.ownsRow lo' e 1 u k ys :=
  h.kept hA.grown hne

theorem ne_of {u v : Value} (h : ∀ k, u.ownBlock = some k → v.ownBlock ≠ some k) : u.ownBlock = none ∨ u.ownBlock ≠ v.ownBlock := by
  cases hu : u.ownBlock with
  | none => exact Or.inl rfl
  | some k => exact Or.inr (fun e => h k hu e.symm)

theorem ad_log {p : Pl} (hp : p.ok) {w1 : World} {z : Nat → Int} {n i m : Nat} {q cn : Int} {w w' : World} (h : Ad p w1 z n i m q cn w) {lv lv' ev : Value} (hlv : Blk w p.lg #[lv] 25) (hbg : Blk w p.b #[.int .i32 q, .int .u32 0, ev, .nilIface] 40)
    (hl : w.ownsRow p.lo 28 1 lv i (vals z i)) (he : w.ownsRow 0 28 1 ev (n + m) (vals z n ++ adds m)) (hd : ∀ k, lv.ownBlock = some k → ev.ownBlock ≠ some k) (hg : ∀ k, ev.ownBlock = some k → k = p.g0 ∨ p.lo ≤ k)
    {o : Obj} (hA : App p.lo 28 (w.alloc o) w' lv lv' i (vals z i) (er z i)) : Ad p w1 z n (i + 1) m q cn (w'.setCell ⟨p.lg, 0, none⟩ lv') := by
  have hsz := hA.grown.size
  have hs := h.size
  simp at hsz
  have l1 := own_ne hl hlv (by decide)
  have l2 := own_ne hl hbg (by decide)
  have l3 := own_ne hl h.cnt (by decide)
  have e1 := own_ne he hlv (by decide)
  have hlo : ∀ k, lv.ownBlock = some k → p.lo ≤ k := fun k hk => (hl.lt k hk).1
  obtain ⟨g, cap, rfl, hw⟩ := hA.where_
  have hgl : p.lo ≤ g := by
    rcases hw with h1 | h1
    · exact hlo g h1
    · simp at h1; omega
  have := hp.lg
  have := hp.cb
  have := hp.b
  have := hp.g0
  refine ⟨hA.grown.os.trans h.os, hA.grown.tape.trans h.tape, hA.grown.output.trans h.output, by simp; omega, ⟨.slice (some ⟨g, 0, none⟩) (i + 1) cap, ev, (hA.blk (hlv.alloc o) l1).setSame 0 _, (hA.blk (hbg.alloc o) l2).setOther hp.n2 _, ?_, ?_, ?_, hg⟩, (hA.blk (h.cnt.alloc o) l3).setOther hp.n1 _, ?_⟩
  · rw [vals_succ]
    exact own_set hA.own (by simp [Value.ownBlock]; omega) _
  · exact own_set (own_app hA (he.alloc o) (ne_of (fun k hk hk2 => hd k hk2 hk))) e1 _
  · intro k hk
    simp [Value.ownBlock] at hk
    subst hk
    rcases hw with h1 | h1
    · exact hd g h1
    · intro h2
      have := (he.lt g h2).2
      simp at h1; omega
  · intro j hj j1 j2 j3 j4
    rw [Below.heap_setCell _ _ _ _ j1, hA.grown.block j (by simp; omega) (fun e => by have := hlo j e.symm; omega), Below.heap_alloc _ _ _ (by omega)]
    exact h.block j hj j1 j2 j3 j4

theorem ad_lock {p : Pl} (hp : p.ok) {w1 : World} {z : Nat → Int} {n i m : Nat} {q cn : Int} {w : World} (h : Ad p w1 z n i m q cn w) (q' : Int) : Ad p w1 z n i m q' cn (w.setCell ⟨p.b, 0, none⟩ (.int .i32 q')) := by
  obtain ⟨lv, ev, hlv, hbg, hl, he, hd, hg⟩ := h.st
  have l2 := own_ne hl hbg (by decide)
  have e2 := own_ne he hbg (by decide)
  refine ⟨h.os, h.tape, h.output, by simpa using h.size, ⟨lv, ev, hlv.setOther (Ne.symm hp.n2) _, hbg.setSame 0 _, own_set hl l2 _, own_set he e2 _, hd, hg⟩, h.cnt.setOther (Ne.symm hp.n4) _, ?_⟩
  intro j hj j1 j2 j3 j4
  rw [Below.heap_setCell _ _ _ _ j2]
  exact h.block j hj j1 j2 j3 j4

theorem ad_cnt {p : Pl} (hp : p.ok) {w1 : World} {z : Nat → Int} {n i m : Nat} {q cn : Int} {w : World} (h : Ad p w1 z n i m q cn w) (cn' : Int) : Ad p w1 z n i m q cn' (w.setCell ⟨p.cb, 0, none⟩ (.int .i64 cn')) := by
  obtain ⟨lv, ev, hlv, hbg, hl, he, hd, hg⟩ := h.st
  have l2 := own_ne hl h.cnt (by decide)
  have e2 := own_ne he h.cnt (by decide)
  refine ⟨h.os, h.tape, h.output, by simpa using h.size, ⟨lv, ev, hlv.setOther (Ne.symm hp.n1) _, hbg.setOther hp.n4 _, own_set hl l2 _, own_set he e2 _, hd, hg⟩, h.cnt.setSame 0 _, ?_⟩
  intro j hj j1 j2 j3 j4
  rw [Below.heap_setCell _ _ _ _ j3]
  exact h.block j hj j1 j2 j3 j4

theorem ad_err {p : Pl} (hp : p.ok) {w1 : World} {z : Nat → Int} {n i m : Nat} {q cn : Int} {w w' : World} (h : Ad p w1 z n i m q cn w) {lv ev ev' : Value} (hlv : Blk w p.lg #[lv] 25) (hbg : Blk w p.b #[.int .i32 q, .int .u32 0, ev, .nilIface] 40)
    (hl : w.ownsRow p.lo 28 1 lv i (vals z i)) (he : w.ownsRow 0 28 1 ev (n + m) (vals z n ++ adds m)) (hd : ∀ k, lv.ownBlock = some k → ev.ownBlock ≠ some k) (hg : ∀ k, ev.ownBlock = some k → k = p.g0 ∨ p.lo ≤ k)
    {o : Obj} (hA : App 0 28 (w.alloc o) w' ev ev' (n + m) (vals z n ++ adds m) (ad m)) : Ad p w1 z n i (m + 1) q cn (w'.setCell ⟨p.b, 2, none⟩ ev') := by
  have hsz := hA.grown.size
  have hs := h.size
  simp at hsz
  have l1 := own_ne he hlv (by decide)
  have l2 := own_ne he hbg (by decide)
  have l3 := own_ne he h.cnt (by decide)
  have e1 := own_ne hl hbg (by decide)
  obtain ⟨g, cap, rfl, hw⟩ := hA.where_
  have := hp.lg
  have := hp.cb
  have := hp.b
  have := hp.g0
  have hgl : g = p.g0 ∨ p.lo ≤ g := by
    rcases hw with h1 | h1
    · exact hg g h1
    · simp at h1; right; omega
  refine ⟨hA.grown.os.trans h.os, hA.grown.tape.trans h.tape, hA.grown.output.trans h.output, by simp; omega, ⟨lv, .slice (some ⟨g, 0, none⟩) (n + m + 1) cap, (hA.blk (hlv.alloc o) l1).setOther (Ne.symm hp.n2) _, (hA.blk (hbg.alloc o) l2).setSame 2 _, ?_, ?_, ?_, ?_⟩, (hA.blk (h.cnt.alloc o) l3).setOther (Ne.symm hp.n4) _, ?_⟩
  · exact own_set (own_app hA (hl.alloc o) (ne_of hd)) e1 _
  · rw [adds_succ, ← List.append_assoc]
    exact own_set hA.own (by simp [Value.ownBlock]; have := hp.n6; omega) _
  · intro k hk h2
    simp [Value.ownBlock] at h2
    subst h2
    rcases hw with h1 | h1
    · exact hd g hk h1
    · have := (hl.lt g hk).2
      simp at h1; omega
  · intro k hk
    simp [Value.ownBlock] at hk
    subst hk
    exact hgl
  · intro j hj j1 j2 j3 j4
    rw [Below.heap_setCell _ _ _ _ j2, hA.grown.block j (by simp; omega) (fun e => by have := hg j e.symm; omega), Below.heap_alloc _ _ _ (by omega)]
    exact h.block j hj j1 j2 j3 j4

end Go.Proofs.Ybulkonk
