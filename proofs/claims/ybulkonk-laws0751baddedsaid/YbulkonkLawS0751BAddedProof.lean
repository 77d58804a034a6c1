/-
  The proof of Rows.LawS0751BAddedSaid: the frame as the guide has it, the walk out of YbulkonkEv13.
-/
import Derived.Test.YbulkonkRows
import Derived.Test.YbulkonkEv14
import Derived.WalkKit
import Derived.ProofKit
import Derived.OpenShut
import Derived.ShutString
import Derived.ChangeOld
import Derived.Below
namespace Go.Proofs.Ybulkonk.lawS0751BAdded
open Go.ChangeShapes Go.WideShapes Go.ChangeAt Go.RowKit
set_option linter.unusedVariables false

theorem own : ownKnob Yba.prog.godebug = none := by kernel_rfl
theorem laidOut : laidOutB Yba.prog = true := by kernel_rfl

theorem walk {a0 b0 : Option Addr} {n cap ab ao m cap2 eab eao : Nat} {fi oi fe oe : Nat → Bool} {w : World} (H : It w a0 n ab ao fi oi) (hn : n ≤ maxLen) (K : It w b0 m eab eao fe oe) (hm : m ≤ maxLen) :
    Calls Yba.prog 6 #[.slice a0 n cap, .slice b0 m cap2] w fun e w' => e = .returned (.bool true) ∧ Below w.heap.size w w' := by
  by_cases h1 : n ≤ 1024
  · by_cases h2 : m ≤ 1024
    · exact addedB H K h1 h2
    · exact addedB_big w (Or.inr h2) hn hm
  · exact addedB_big w (Or.inl h1) hn hm

set_option maxRecDepth 100000 in
theorem lifted (os : Os) (started : os.Started) (H : Type) (enc : TypeId × Value → H) :
    ReturnsInHanded {} Yba.checked os 6 .any (Rows.lawS0751BAddedSpec.pre6 enc Yba.prog Yba.f6 Rows.lawS0751BAddedRow.domain false) (Rows.lawS0751BAddedSpec.post enc Yba.prog Yba.f6 false true false false) := by
  refine returnsInHanded_of_change (C := Yba.checked) own started (by kernel_rfl) Yba.func6
    (ChangeSpec.witness6 (enc := enc) (C := Yba.checked) false ⟨#[], #[.slice none 0 0, .slice none 0 0], []⟩ 8 (by kernel_rfl) (by kernel_rfl) (by kernel_rfl) (by kernel_rfl)) ?_
  intro W base args ds gs before hval0 hW hcnd _
  have hval : ∀ (j : Nat) t v, Yba.f6.params[j]? = some t → args[j]? = some v → Value.okWide Yba.prog W .any base t v := hval0
  have hW' := hW
  obtain ⟨p, q, hA0, hV, rfl, hfz, hnd⟩ := hW
  have hA : DataW.TrodAll enc Yba.prog W 0 (fun _ => true) true Yba.f6.params.toList args.toList ds p := hA0
  rw [Yba.params6] at hA hval
  obtain ⟨v0, vs0, d0, ds0, p0, q0, hargs, rfl, rfl, h0, r0⟩ := trodAll_cons hA
  obtain ⟨v1, vs1, d1, ds1, p1, q1, rfl, rfl, rfl, h1, r1⟩ := trodAll_cons r0
  obtain ⟨rfl, rfl, rfl⟩ := trodAll_nil r1
  obtain rfl : args = #[v0, v1] := by cases args; simp_all
  obtain ⟨rfl, rfl⟩ := trodVars_none hV
  obtain ⟨a0', l0', c0', rfl⟩ := okWide_slice Yba.underlying47 (hval 0 47 v0 rfl rfl)
  obtain ⟨a1', l1', c1', rfl⟩ := okWide_slice Yba.underlying47 (hval 1 47 v1 rfl rfl)
  have k0 := h0
  have k1 := h1
  have lt0 : ∀ x ∈ p0, x.block < W.heap.size := by obtain ⟨m, hm⟩ := k0; exact DataW.trod_lt m _ _ _ hm
  have lt1 : ∀ x ∈ p1, x.block < W.heap.size := by obtain ⟨m, hm⟩ := k1; exact DataW.trod_lt m _ _ _ hm
  obtain ⟨fuel, hf⟩ := h0
  obtain ⟨fuel1, hf1⟩ := h1
  obtain ⟨a0, n, cap, ab, ao, fi, oi, hv, hIt, hm⟩ := open_items (v := .slice a0' l0' c0') hf
  simp only [Value.slice.injEq] at hv
  obtain ⟨rfl, rfl, rfl⟩ := hv
  obtain ⟨b0, m, cap2, eab, eao, fe, oe, hv1, hKt, hm1⟩ := open_items (v := .slice a1' l1' c1') hf1
  simp only [Value.slice.injEq] at hv1
  obtain ⟨rfl, rfl, rfl⟩ := hv1
  clear hA0 hval0
  refine (walk hIt hm hKt hm1).mono fun e W' ⟨he, bel⟩ => ?_
  subst he
  exact ⟨_, rfl, _, _, _, [], _, [], hW', trodAll_mk1 (shut_bool Yba.underlying4 _), (trodAll_cons_mk (Below.trod laidOut (by kernel_rfl) (of_decide_eq_true (by kernel_rfl)) k0 bel lt0) (trodAll_cons_mk (Below.trod laidOut (by kernel_rfl) (of_decide_eq_true (by kernel_rfl)) k1 bel lt1) trodAll_mk0)), rfl, bel.frame _, fun h => by cases h⟩

theorem over : Rows.lawS0751BAddedRow.holds Yba.pinned (OpenSpec.ofChange Rows.lawS0751BAddedSpec) :=
  OpenClaim.holds_of_wide 6 Yba.f6 rfl rfl rfl rfl rfl rfl rfl ⟨rfl, rfl, rfl, rfl, rfl⟩ rfl rfl rfl rfl rfl (by kernel_rfl) Yba.func6 (by kernel_rfl)
    (of_decide_eq_true (by kernel_rfl)) (by unfold Func.isWrapper; first | (rw [if_pos (by decide +kernel)]; kernel_rfl) | (rw [if_neg (by decide +kernel)]; exact ⟨rfl, rfl⟩))
    (fun os started H enc _ => lifted os started H enc)

/-- THE STATEMENT -/
theorem proved : Rows.LawS0751BAddedSaid := over
end Go.Proofs.Ybulkonk.lawS0751BAdded
