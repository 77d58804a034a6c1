/-
  The steps that came in, opened.
-/
import Derived.Test.YbulkomiLaw2
import Derived.ProofKit
import Derived.Deep.Slices
import Derived.OpenShut
namespace Go.Proofs.Ybulkomi
open Go.ChangeShapes Go.WideShapes Go.ChangeAt Go.RowKit Go.Deep

theorem cells37 : Yba.prog.cellsOf 37 = 4 := by kernel_rfl
theorem cells35 : Yba.prog.cellsOf 35 = 1 := by kernel_rfl
theorem cells5 : Yba.prog.cellsOf 5 = 1 := by kernel_rfl

section
variable {H : Type} {enc : TypeId × Value → H} {w : World}

theorem len4 {α : Type} {l : List α} (h : l.length = 4) : ∃ a b c d, l = [a, b, c, d] := by
  match l, h with
  | [a, b, c, d], _ => exact ⟨a, b, c, d, rfl⟩

theorem choose_at {α : Type} (d : α) {n : Nat} {p : Nat → α → Prop} (h : ∀ i, i < n → ∃ x, p i x) : ∃ f : Nat → α, ∀ i, i < n → p i (f i) := by
  haveI : Inhabited α := ⟨d⟩
  exact choose_lt h

/-- A row of bytes, opened. -/
theorem open_bytes {fuel : Nat} {v : Value} {x : DataW H × List MemPlace} (h : DataW.trod enc Yba.prog w 0 (fun _ => true) true fuel 35 [v] = some x) :
    ∃ y : Option Addr × List Nat × Nat, v = .slice y.1 y.2.1.length y.2.2 ∧ BRow w.heap.size w y.1 y.2.1 := by
  rcases open_slice1 Yba.underlying35 cells5 h with ⟨hcs, _⟩ | ⟨a, len, cap, m, n, V, D, Pl, hcs, _, hl, hm, hmm, _, hel⟩
  · simp at hcs
    exact ⟨(none, [], 0), hcs, fun j hj => by simp at hj⟩
  · simp only [if_true] at hmm
    subst hmm
    simp only [List.cons.injEq, and_true] at hcs
    have each : ∀ j, j < m → ∃ z : Nat, V j = .int .u8 (z : Nat) ∧ z < 256 := by
      intro j hj
      obtain ⟨z, e, _, hw⟩ := DataW.trod_int Yba.underlying5 (hel j hj).2
      have hb := bounds_u8 hw
      simp at e
      refine ⟨z.toNat, by rw [e, Int.toNat_of_nonneg hb.1], by omega⟩
    obtain ⟨z, hz⟩ := choose_at 0 each
    have hlen : ((List.range len).map z).length = len := by simp
    refine ⟨(some a, (List.range len).map z, m), by rw [hlen]; exact hcs, fun j hj => ?_⟩
    rw [hlen] at hj
    have h0 := (hel 0 (by omega)).1
    have hsp : a.spot = none := by
      have := World.cell?_spot h0
      simpa [Addr.add] using this
    have hblk : a.block < w.heap.size := by
      have := World.block_lt_of_cell? _ _ h0
      simpa [Addr.add] using this
    obtain ⟨ab, ao, sp⟩ := a
    simp only at hsp hblk
    subst hsp
    have hc := (hel j (by omega)).1
    rw [Addr.add_lit, (hz j (by omega)).1] at hc
    refine ⟨ab, ao, rfl, hblk, hblk, ?_, ?_⟩
    · simpa using hc
    · simpa using (hz j (by omega)).2

/-- One step, opened. -/
theorem open_step {fuel : Nat} {cs : List Value} {x : DataW H × List MemPlace} (h : DataW.trod enc Yba.prog w 0 (fun _ => true) true fuel 37 cs = some x) :
    ∃ y : Nat → Option Addr × List Nat × Nat, cs = [.slice (y 0).1 (y 0).2.1.length (y 0).2.2, .slice (y 1).1 (y 1).2.1.length (y 1).2.2, .slice (y 2).1 (y 2).2.1.length (y 2).2.2, .slice (y 3).1 (y 3).2.1.length (y 3).2.2] ∧ ∀ f, f < 4 → BRow w.heap.size w (y f).1 (y f).2.1 := by
  obtain ⟨xs, n, _, _, hl, hxl, hf⟩ := DataW.trod_struct Yba.underlying37 h
  rw [cells37] at hl
  obtain ⟨y0, y1, y2, y3, rfl⟩ := len4 (show xs.length = 4 from hxl)
  obtain ⟨v0, v1, v2, v3, rfl⟩ := len4 hl
  have g0 := hf 0 _ rfl
  have g1 := hf 1 _ rfl
  have g2 := hf 2 _ rfl
  have g3 := hf 3 _ rfl
  simp [cells35] at g0 g1 g2 g3
  obtain ⟨a0, e0, b0⟩ := open_bytes g0
  obtain ⟨a1, e1, b1⟩ := open_bytes g1
  obtain ⟨a2, e2, b2⟩ := open_bytes g2
  obtain ⟨a3, e3, b3⟩ := open_bytes g3
  refine ⟨fun f => if f = 0 then a0 else if f = 1 then a1 else if f = 2 then a2 else a3, by simp [e0, e1, e2, e3], fun f hf => ?_⟩
  have : f = 0 ∨ f = 1 ∨ f = 2 ∨ f = 3 := by omega
  rcases this with rfl | rfl | rfl | rfl
  · exact b0
  · exact b1
  · exact b2
  · exact b3

/-- The whole argument, opened. -/
theorem open_steps {fuel : Nat} {v : Value} {x : DataW H × List MemPlace} (h : DataW.trod enc Yba.prog w 0 (fun _ => true) true fuel 34 [v] = some x) :
    ∃ (a0 : Option Addr) (n cap : Nat) (A : Nat → Nat → Option Addr) (C : Nat → Nat → Nat) (X : Nat → Nat → List Nat), v = .slice a0 n cap ∧ StIn w a0 n A C X := by
  rcases open_slice Yba.underlying34 h with ⟨hcs, _⟩ | ⟨a, len, cap, m, n, D, Pl, hcs, _, hl, hm, hmm, _, hel⟩
  · simp at hcs
    exact ⟨none, 0, 0, fun _ _ => none, fun _ _ => 0, fun _ _ => [], hcs, ⟨fun i hi => by omega, fun i hi => by omega⟩⟩
  · simp only [if_true] at hmm
    subst hmm
    simp only [List.cons.injEq, and_true] at hcs
    rw [cells37] at hel
    have each : ∀ j, j < m → ∃ y : Nat → Option Addr × List Nat × Nat, (∀ q, q < 4 → w.cell? ((a.add (j * 4)).add q) = some (.slice (y q).1 (y q).2.1.length (y q).2.2)) ∧ ∀ f, f < 4 → BRow w.heap.size w (y f).1 (y f).2.1 := by
      intro j hj
      obtain ⟨cs', h1, h2⟩ := hel j hj
      obtain ⟨_, _, hcell⟩ := World.cells?_some h1
      obtain ⟨y, rfl, hy⟩ := open_step h2
      refine ⟨y, fun q hq => ?_, hy⟩
      rw [hcell q hq]
      have : q = 0 ∨ q = 1 ∨ q = 2 ∨ q = 3 := by omega
      rcases this with rfl | rfl | rfl | rfl <;> rfl
    obtain ⟨y, hy⟩ := choose_at (fun _ => (none, [], 0)) each
    refine ⟨some a, len, m, fun i f => (y i f).1, fun i f => (y i f).2.2, fun i f => (y i f).2.1, hcs, ⟨fun i hi => ?_, fun i hi f hf => (hy i (by omega)).2 f hf⟩⟩
    have h0 := (hy 0 (by omega)).1 0 (by omega)
    have hsp : a.spot = none := by
      have := World.cell?_spot h0
      simpa [Addr.add] using this
    have hblk : a.block < w.heap.size := by
      have := World.block_lt_of_cell? _ _ h0
      simpa [Addr.add] using this
    obtain ⟨ab, ao, sp⟩ := a
    simp only at hsp hblk
    subst hsp
    refine ⟨ab, ao, rfl, hblk, fun f hf => ?_⟩
    have := (hy i (by omega)).1 f hf
    simp only [Addr.add_lit] at this
    exact this

end
end Go.Proofs.Ybulkomi
