/-
  task.Events: waitAll and Wait over the plain state.
-/
import Derived.Test.YbulkonkEv6
import Derived.Deep.LoopGhost
namespace Go.Proofs.Ybulkonk
open Go.RowKit Go.MuLone

/-- The plain state. -/
structure As where
  F : Nat → Bool
  sb : Option Nat
  V : List Nat
  L : List Nat

abbrev As.St (s : As) (c : Cf) (eb : Nat → Nat) (D : Nat → Prop) (v : Value) (w : World) : Prop := Ybulkonk.St c eb D s.F s.sb s.V s.L v w
def As.U (s : As) : List Nat := s.V.filter (fun x => !s.F x)
/-- one event waited for -/
def As.wait (c : Cf) (s : As) (x : Nat) : As := ⟨fire s.F x (c.ok x), if s.sb = some x then none else s.sb, if s.sb = some x then s.V ++ c.X else s.V, s.L ++ [x]⟩
def As.run (c : Cf) : As → List Nat → As × Bool
  | s, [] => (s, true)
  | s, x :: t => if c.ok x then As.run c (s.wait c x) t else (s.wait c x, false)
def As.B (c : Cf) (s : As) : Prop := s.V.length + (if s.sb = none then 0 else c.X.length) ≤ 2048

theorem As.wait_B {c : Cf} {s : As} (h : s.B c) (x : Nat) : (s.wait c x).B c := by
  unfold As.B As.wait at *
  by_cases e : s.sb = some x
  · simp [e] at h ⊢; omega
  · simp [e]; exact h

theorem wait_key (c : Cf) (s : As) (x : Nat) : (s.sb = some x ∧ (s.wait c x).sb = none ∧ (s.wait c x).V = s.V ++ c.X) ∨ (s.sb ≠ some x ∧ (s.wait c x).sb = s.sb ∧ (s.wait c x).V = s.V) := by
  by_cases e : s.sb = some x
  · exact Or.inl ⟨e, by simp [As.wait, e], by simp [As.wait, e]⟩
  · exact Or.inr ⟨e, by simp [As.wait, e], by simp [As.wait, e]⟩

set_option maxRecDepth 100000 in
set_option maxHeartbeats 2000000 in
theorem waitAll_any {c : Cf} {eb : Nat → Nat} {D : Nat → Prop} {s : As} {v : Value} {w : World} (h : s.St c eb D v w) (hB : s.B c) (hX : c.X.length ≤ 2048) {U : List Nat} (hL : s.L.length + U.length ≤ 4096) (hd : ∀ x ∈ U, D x) {g cap : Nat} (hr : EvRow eb U g w) (hg : v.ownBlock ≠ some g) (ctx : Value) {s' : As} {b : Bool} (hrun : s.run c U = (s', b)) :
    Calls Yba.prog 24 #[ctx, .slice (some ⟨g, 0, none⟩) U.length cap] w fun r w' => r = .returned (.bool b) ∧ ∃ v', s'.St c eb D v' w' ∧ Ch c.lo v v' w w' := by
  go_enter Yba.func24, Yba.ntmps24
  go_wp2
  go_loopw [9] (fun i wr => ∃ (k : Nat) (sk : As) (vk : Value), k ≤ U.length ∧ i = .int .i64 k ∧ sk.St c eb D vk wr ∧ sk.B c ∧ sk.L.length = s.L.length + k ∧ Ch c.lo v vk w wr ∧ sk.run c (U.drop k) = (s', b)) (fun i _ => U.length - (intOf i).toNat)
  case atStart => exact ⟨0, s, v, Nat.zero_le _, rfl, h, hB, rfl, Ch.refl _ _ _, by simpa using hrun⟩
  case round =>
    obtain ⟨k, sk, vk, hk, rfl, hst, hBk, hLk, hch, hrk⟩ := hrel
    clear h hB hrun
    by_cases hlt : k < U.length
    · obtain ⟨⟨cy, hcy, hcc⟩, hgk⟩ := hch.evrow hr hg
      have hc : wr.cell? ⟨g, k, none⟩ = some (.iface 55 (.pointer (some ⟨eb U[k], 0, none⟩))) := (hcy.cell k).trans (hcc k _ (by simp [hlt, evv]))
      have hdrop : U.drop k = U[k] :: U.drop (k + 1) := List.drop_eq_getElem_cons hlt
      rw [hdrop] at hrk
      have hVk : sk.V.length ≤ 2048 := by unfold As.B at hBk; omega
      have HW := evwait hst hVk hX (by omega) (hd _ (List.getElem_mem hlt)) ctx (wait_key c sk U[k])
      have tok : True := trivial
      clear hcc hcy hr hdrop
      cases hok : c.ok U[k] with
      | true =>
        simp only [As.run, hok, if_true] at hrk
        have hB' := sk.wait_B (c := c) hBk U[k]
        rw [hok] at HW
        go_wp2_with (have _t := tok; refine wpList_invoke _ rfl _ _ _ _ rfl (evv eb U[k]) rfl #[ctx] (by simp [Act.eval]) 59 #[.pointer (some ⟨eb U[k], 0, none⟩), ctx] ?_ ?_; kernel_rfl; refine HW.mono ?_; rintro r w' ⟨rfl, v2, h2, ch2⟩; clear tok)
        go_wp2
        go_roundw
        case rel => exact ⟨k + 1, sk.wait c U[k], v2, by omega, by go_num, by simpa [As.St, As.wait, hok] using h2, hB', by simp [As.wait]; omega, hch.trans ch2, hrk⟩
        case measure => simp [intOf]; omega
      | false =>
        simp only [As.run, hok] at hrk
        obtain ⟨rfl, rfl⟩ : sk.wait c U[k] = s' ∧ false = b := by simpa using hrk
        rw [hok] at HW
        go_wp2_with (have _t := tok; refine wpList_invoke _ rfl _ _ _ _ rfl (evv eb U[k]) rfl #[ctx] (by simp [Act.eval]) 59 #[.pointer (some ⟨eb U[k], 0, none⟩), ctx] ?_ ?_; kernel_rfl; refine HW.mono ?_; rintro r w' ⟨rfl, v2, h2, ch2⟩; clear tok)
        go_wp2
        go_ret
        exact ⟨rfl, v2, by simpa [As.St, As.wait, hok] using h2, hch.trans ch2⟩
    · have hkn : k = U.length := by omega
      subst hkn
      rw [List.drop_length] at hrk
      obtain ⟨rfl, rfl⟩ : sk = s' ∧ true = b := by simpa [As.run] using hrk
      go_wp2
      go_ret
      exact ⟨rfl, vk, hst, hch⟩

/-- How Wait goes: in at most k more rounds. -/
inductive Wt (c : Cf) : Nat → As → As → Bool → Prop
  | done (k : Nat) (s : As) : s.B c → s.U = [] → Wt c k s s true
  | stop (k : Nat) (s s' : As) : s.B c → s.L.length + s.U.length ≤ 4096 → s.U ≠ [] → s.run c s.U = (s', false) → Wt c k s s' false
  | more (k : Nat) (s s1 s' : As) (b : Bool) : s.B c → s.L.length + s.U.length ≤ 4096 → s.U ≠ [] → s.run c s.U = (s1, true) → Wt c k s1 s' b → Wt c (k + 1) s s' b

set_option maxHeartbeats 2000000 in
theorem wait_any {c : Cf} {eb : Nat → Nat} {D : Nat → Prop} {s : As} {v : Value} {w : World} (h : s.St c eb D v w) (hX : c.X.length ≤ 2048) (ctx : Value) {n : Nat} {s' : As} {b : Bool} (hW : Wt c n s s' b) :
    Calls Yba.prog 14 #[.pointer (some ⟨c.evb, 0, none⟩), ctx] w fun r w' => r = .returned (.bool b) ∧ ∃ v', s'.St c eb D v' w' ∧ Ch c.lo v v' w w' := by
  go_enter Yba.func14, Yba.ntmps14
  go_wp2
  go_loopg [5] n (fun k _ wr => ∃ (sk : As) (vk : Value), sk.St c eb D vk wr ∧ Ch c.lo v vk w wr ∧ Wt c k sk s' b)
  case atStart => exact ⟨s, v, h, Ch.refl _ _ _, hW⟩
  case round =>
    obtain ⟨sk, vk, hst, hch, hWk⟩ := hrel
    clear h hW
    have hBk : sk.B c := by cases hWk <;> assumption
    have hVk : sk.V.length ≤ 2048 := by unfold As.B at hBk; omega
    have hUle : sk.U.length ≤ sk.V.length := List.length_filter_le _ _
    have hUD : ∀ x ∈ sk.U, D x := fun x hx => hst.vd x (List.mem_filter.1 hx).1
    go_wp2_with fail
    refine (pending_st hst (by omega) (U := sk.U) rfl).mono ?_
    rintro r w1 ⟨v1, h1, ch1, hcase⟩
    rcases hcase with ⟨rfl, hU0⟩ | ⟨g, cap, rfl, hpos, hrow, hng⟩
    · obtain ⟨rfl, rfl⟩ : s' = sk ∧ b = true := by
        cases hWk with
        | done => exact ⟨rfl, rfl⟩
        | stop _ _ _ _ _ h0 => exact absurd hU0 h0
        | more _ _ _ _ _ _ _ h0 => exact absurd hU0 h0
      go_wp2
      go_ret
      exact ⟨rfl, v1, h1, hch.trans ch1⟩
    · have hne : sk.U ≠ [] := List.length_pos_iff.1 hpos
      generalize hUU : sk.U = U at *
      cases hWk with
      | done _ _ _ h0 => exact absurd (hUU.symm.trans h0) hne
      | stop _ _ _ _ h2 _ h4 =>
        rw [hUU] at h2 h4
        have HA := waitAll_any (cap := cap) h1 hBk hX h2 hUD hrow hng ctx h4
        clear hUU
        go_wp2_with (go_at_call 24; refine HA.mono ?_; rintro r w2 ⟨rfl, v2, h3, ch3⟩)
        go_wp2
        go_ret
        exact ⟨rfl, v2, h3, hch.trans (ch1.trans ch3)⟩
      | more k' _ s1 _ _ _ h2 _ h4 h5 =>
        rw [hUU] at h2 h4
        have HA := waitAll_any (cap := cap) h1 hBk hX h2 hUD hrow hng ctx h4
        clear hUU
        go_wp2_with (go_at_call 24; refine HA.mono ?_; rintro r w2 ⟨rfl, v2, h3, ch3⟩)
        go_wp2
        go_roundg k'
        case measure => omega
        case rel => exact ⟨s1, v2, h3, hch.trans (ch1.trans ch3), h5⟩

end Go.Proofs.Ybulkonk
