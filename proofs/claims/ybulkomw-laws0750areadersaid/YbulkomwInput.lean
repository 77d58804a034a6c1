/-
  The law's input in memory; the loops of a body.
-/
import Derived.Test.YbulkomwState
import Derived.BigRegion
import Derived.Deep.LoopGhost
import Derived.Deep.Light
import Derived.Deep.DeepCutAuto
namespace Go.Proofs.Ybulkomw
open Go.RowKit

/-- The loops of a code, each with its 'loop' word, the outer ones first. -/
def loopsOf : Code → List Code
  | .loop c => .loop c :: loopsOf c
  | .seq a b => loopsOf a ++ loopsOf b
  | .block _ c => loopsOf c
  | .scope c => loopsOf c
  | .cond _ a b => loopsOf a ++ loopsOf b
  | _ => []

/-- What holds where a code is left by 'leave block n'; it is left in no other way. -/
def exitOnly (n : Nat) (E : Act → World → Prop) : Exit → Act → World → Prop
  | .exit m, a, w => m = n ∧ E a w
  | _, _, _ => False

theorem wp_exitOnly {P : Program} {s : Code} {n : Nat} {Q : Exit → Act → World → Prop} {a : Act} {w : World} (h : s.wp P (exitOnly n (Q (.exit n))) a w) : s.wp P Q a w := by
  refine wp_mono h ?_
  intro e a' w' hq
  cases e with
  | exit m => obtain ⟨rfl, h⟩ := hq; exact h
  | normal => exact hq.elim
  | goto l => exact hq.elim
  | ret => exact hq.elim
  | panic ch => exact hq.elim
  | outgrown => exact hq.elim

/-- The law's input in memory. -/
structure Input (w : World) (a0 : Option Addr) (n : Nat) (ab ao : Nat) (A : Nat → Option Addr) (L C : Nat → Nat) (rb ro : Nat → Nat) (I : Nat → Nat → Inp) : Prop where
  nle : n ≤ 5864062014805
  head : ∀ r, r < n → a0 = some ⟨ab, ao, none⟩ ∧ ab < w.heap.size ∧ w.cell? ⟨ab, ao + r, none⟩ = some (.slice (A r) (L r) (C r))
  lle : ∀ r, r < n → L r ≤ 3518437208780
  elem : ∀ r, r < n → ∀ j, j < L r → A r = some ⟨rb r, ro r, none⟩ ∧ rb r < w.heap.size ∧ w.cell? ⟨rb r, ro r + j * 6, none⟩ = some (.bool (I r j).held) ∧ w.cell? ⟨rb r, ro r + j * 6 + 1, none⟩ = some (.int .u8 (I r j).file) ∧
    w.cell? ⟨rb r, ro r + j * 6 + 2, none⟩ = some (.int .i64 (I r j).s) ∧ w.cell? ⟨rb r, ro r + j * 6 + 3, none⟩ = some (.int .i64 (I r j).e) ∧ w.cell? ⟨rb r, ro r + j * 6 + 4, none⟩ = some (.int .i64 (I r j).k) ∧ w.cell? ⟨rb r, ro r + j * 6 + 5, none⟩ = some (.int .i64 (I r j).n)
  file : ∀ r, r < n → ∀ j, j < L r → 0 ≤ (I r j).file ∧ (I r j).file ≤ 255

end Go.Proofs.Ybulkomw
