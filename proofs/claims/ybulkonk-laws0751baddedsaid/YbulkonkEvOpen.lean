/-
  The items that came in, opened.
-/
import Derived.Test.YbulkonkEv10
import Derived.ProofKit
import Derived.Deep.Slices
import Derived.OpenShut
namespace Go.Proofs.Ybulkonk
open Go.ChangeShapes Go.WideShapes Go.ChangeAt Go.RowKit Go.Deep

theorem cells53 : Yba.prog.cellsOf 53 = 2 := by kernel_rfl
theorem cells4 : Yba.prog.cellsOf 4 = 1 := by kernel_rfl

section
variable {H : Type} {enc : TypeId × Value → H} {w : World}

theorem len2 {α : Type} {l : List α} (h : l.length = 2) : ∃ a b, l = [a, b] := by
  match l, h with
  | [a, b], _ => exact ⟨a, b, rfl⟩

theorem open_item {fuel : Nat} {cs : List Value} {x : DataW H × List MemPlace} (h : DataW.trod enc Yba.prog w 0 (fun _ => true) true fuel 53 cs = some x) : ∃ X : Bool × Bool, cs = [.bool X.1, .bool X.2] := by
  obtain ⟨xs, n, _, _, hl, hxl, hf⟩ := DataW.trod_struct Yba.underlying53 h
  rw [cells53] at hl
  obtain ⟨y0, y1, rfl⟩ := len2 (show xs.length = 2 from hxl)
  obtain ⟨v0, v1, rfl⟩ := len2 hl
  have g0 := hf 0 _ rfl
  have g1 := hf 1 _ rfl
  simp [cells4] at g0 g1
  obtain ⟨b, e0, _⟩ := DataW.trod_bool Yba.underlying4 g0
  obtain ⟨b', e1, _⟩ := DataW.trod_bool Yba.underlying4 g1
  simp at e0 e1
  subst e0 e1
  exact ⟨(b, b'), rfl⟩

theorem choose_at {α : Type} (d : α) {n : Nat} {p : Nat → α → Prop} (h : ∀ i, i < n → ∃ x, p i x) : ∃ f : Nat → α, ∀ i, i < n → p i (f i) := by
  haveI : Inhabited α := ⟨d⟩
  exact choose_lt h

theorem open_items {fuel : Nat} {v : Value} {d : DataW H} {pl : List MemPlace} (h : DataW.trod enc Yba.prog w 0 (fun _ => true) true fuel 47 [v] = some (d, pl)) :
    ∃ (a0 : Option Addr) (n cap ab ao : Nat) (fi oi : Nat → Bool), v = .slice a0 n cap ∧ It w a0 n ab ao fi oi ∧ n ≤ maxLen := by
  rcases open_slice Yba.underlying47 h with ⟨hcs, hx⟩ | ⟨a, len, cap, m, n, D, Pl, hcs, _, hl, hm, hmm, hx, hel⟩
  · simp at hcs hx
    exact ⟨none, 0, 0, 0, 0, fun _ => false, fun _ => false, hcs, fun j hj => by omega, Nat.zero_le _⟩
  · simp only [if_true] at hmm
    subst hmm
    simp only [List.cons.injEq, and_true] at hcs
    rw [cells53] at hel
    have each : ∀ j, j < m → ∃ X : Bool × Bool, ∀ q, q < 2 → w.cell? ((a.add (j * 2)).add q) = [Value.bool X.1, .bool X.2][q]? := by
      intro j hj
      obtain ⟨cs', h1, h2⟩ := hel j hj
      obtain ⟨_, _, hcell⟩ := World.cells?_some h1
      obtain ⟨X, rfl⟩ := open_item h2
      exact ⟨X, hcell⟩
    obtain ⟨I, hI⟩ := choose_at (false, false) each
    refine ⟨some a, len, m, a.block, a.off, fun i => (I i).1, fun i => (I i).2, hcs, fun j hj => ?_, Nat.le_trans hl hm⟩
    have hz := hI 0 (by omega) 0 (by omega)
    have hsp : a.spot = none := by
      have := World.cell?_spot hz
      simpa [Addr.add] using this
    have hblk : a.block < w.heap.size := by
      have := World.block_lt_of_cell? _ _ hz
      simpa [Addr.add] using this
    obtain ⟨ab, ao, sp⟩ := a
    simp only at hsp hblk
    subst hsp
    have hj' := hI j (by omega)
    simp only [Addr.add_lit] at hj'
    refine ⟨rfl, hblk, ?_, ?_⟩
    · simpa using hj' 0 (by omega)
    · simpa using hj' 1 (by omega)
end

set_option maxHeartbeats 400000 in
theorem orderB_big {a0 : Option Addr} {n cap : Nat} (w : World) (hn : ¬ n ≤ 1024) (hm : n ≤ maxLen) :
    Calls Yba.prog 5 #[.slice a0 n cap] w fun e w' => e = .returned (.bool true) ∧ Below w.heap.size w w' := by
  unfold maxLen at hm
  go_enter Yba.func5, Yba.ntmps5
  go_wp2
  go_ret
  exact ⟨rfl, Below.refl _ _⟩

end Go.Proofs.Ybulkonk
