/-
  The plain law: what waiting does to the plain state, against zzs0751bstep's count. No Go here.
-/
import Derived.Test.YbulkonkEv8
namespace Go.Proofs.Ybulkonk

theorem fold_filter (F ok : Nat → Bool) (V : List Nat) : ∀ st, V.foldl (gst F ok) st = (V.filter (fun x => !F x)).foldl (gst F ok) st := by
  induction V with
  | nil => intro st; rfl
  | cons x t ih =>
    intro st
    cases hf : F x with
    | true => simp [hf, gst, ih]
    | false => simp [hf, ih]

theorem fold_false (F ok : Nat → Bool) (U : List Nat) : (∀ y ∈ U, F y = false) → ∀ L k, U.foldl (gst F ok) (L, false, k) = (L, false, k + U.length) := by
  induction U with
  | nil => intro _ L k; rfl
  | cons x t ih =>
    intro h L k
    have hx := h x (by simp)
    simp only [List.foldl_cons]
    rw [show gst F ok (L, false, k) x = (L, false, k + 1) by simp [gst, hx], ih (fun y hy => h y (by simp [hy]))]
    simp; omega

theorem fold_congr (F G ok : Nat → Bool) (X : List Nat) : (∀ y ∈ X, F y = G y) → ∀ st, X.foldl (gst F ok) st = X.foldl (gst G ok) st := by
  induction X with
  | nil => intro _ st; rfl
  | cons x t ih =>
    intro h st
    simp only [List.foldl_cons]
    rw [show gst F ok st x = gst G ok st x by simp [gst, h x (by simp)], ih (fun y hy => h y (by simp [hy]))]

theorem run_mono {c : Cf} {y : Nat} (U : List Nat) : ∀ s : As, s.F y = true → (s.run c U).1.F y = true := by
  induction U with
  | nil => intro s h; exact h
  | cons x t ih =>
    intro s h
    have hw : (s.wait c x).F y = true := by simp [As.wait, fire, h]
    unfold As.run
    split
    · exact ih _ hw
    · exact hw

theorem run_other {c : Cf} {y : Nat} (U : List Nat) : ∀ s : As, y ∉ U → (s.run c U).1.F y = s.F y := by
  induction U with
  | nil => intro s _; rfl
  | cons x t ih =>
    intro s h
    have hne : y ≠ x := fun e => h (by simp [e])
    have hw : (s.wait c x).F y = s.F y := by simp [As.wait, fire, hne]
    unfold As.run
    split
    · rw [ih _ (fun e => h (by simp [e])), hw]
    · exact hw

theorem run_true {c : Cf} (U : List Nat) : ∀ s s' : As, s.run c U = (s', true) → ∀ y ∈ U, s'.F y = true := by
  induction U with
  | nil => intro s s' _ y hy; cases hy
  | cons x t ih =>
    intro s s' h y hy
    unfold As.run at h
    split at h
    · rename_i hok
      rcases List.mem_cons.1 hy with rfl | hy
      · have := run_mono (c := c) (y := y) t (s.wait c y) (by simp [As.wait, fire, hok])
        rw [h] at this
        exact this
      · exact ih _ _ h y hy
    · simp at h

theorem run_none {c : Cf} (U : List Nat) : ∀ s : As, s.sb = none → (s.run c U).1.sb = none ∧ (s.run c U).1.V = s.V := by
  induction U with
  | nil => intro s h; exact ⟨h, rfl⟩
  | cons x t ih =>
    intro s h
    have hw : (s.wait c x).sb = none ∧ (s.wait c x).V = s.V := by simp [As.wait, h]
    unfold As.run
    split
    · have := ih _ hw.1
      exact ⟨this.1, this.2.trans hw.2⟩
    · exact hw

theorem run_head {c : Cf} (x : Nat) (t : List Nat) (s : As) (h : s.sb = some x) : (s.run c (x :: t)).1.sb = none ∧ (s.run c (x :: t)).1.V = s.V ++ c.X := by
  have hw : (s.wait c x).sb = none ∧ (s.wait c x).V = s.V ++ c.X := by simp [As.wait, h]
  unfold As.run
  split
  · have := run_none (c := c) t _ hw.1
    exact ⟨this.1, this.2.trans hw.2⟩
  · exact hw

theorem run_len {c : Cf} (U : List Nat) : ∀ s : As, (s.run c U).1.L.length ≤ s.L.length + U.length := by
  induction U with
  | nil => intro s; exact Nat.le_refl _
  | cons x t ih =>
    intro s
    unfold As.run
    split
    · have := ih (s.wait c x)
      have hl : (s.wait c x).L.length = s.L.length + 1 := by simp [As.wait]
      simp only [List.length_cons]
      omega
    · simp [As.wait]

theorem run_fold {c : Cf} {F0 : Nat → Bool} (U : List Nat) : ∀ (s s' : As) (b : Bool) (k : Nat), (∀ y ∈ U, F0 y = false) → (∀ y ∈ U, s.F y = false) → U.Nodup → s.run c U = (s', b) →
    U.foldl (gst F0 c.ok) (s.L, true, k) = (s'.L, b, k + (U.filter (fun y => !s'.F y)).length) := by
  induction U with
  | nil =>
    intro s s' b k _ _ _ h
    simp [As.run] at h
    obtain ⟨rfl, rfl⟩ := h
    rfl
  | cons x t ih =>
    intro s s' b k h0 hF hnd h
    have hx0 := h0 x (by simp)
    obtain ⟨hxt, hnt⟩ := List.nodup_cons.1 hnd
    unfold As.run at h
    simp only [List.foldl_cons]
    cases hok : c.ok x with
    | true =>
      simp only [hok, if_true] at h
      rw [show gst F0 c.ok (s.L, true, k) x = ((s.wait c x).L, true, k) by simp [gst, hx0, hok, As.wait]]
      rw [ih (s.wait c x) s' b k (fun y hy => h0 y (by simp [hy])) (fun y hy => ?_) hnt h]
      · have hs : s'.F x = true := by
          have := run_mono (c := c) (y := x) t (s.wait c x) (by simp [As.wait, fire, hok])
          rw [h] at this
          exact this
        simp [hs]
      · have hne : y ≠ x := fun e => hxt (e ▸ hy)
        simp [As.wait, fire, hF y (by simp [hy]), hne]
    | false =>
      simp [hok] at h
      obtain ⟨rfl, rfl⟩ := h
      rw [show gst F0 c.ok (s.L, true, k) x = ((s.wait c x).L, false, k + 1) by simp [gst, hx0, hok, As.wait]]
      rw [fold_false F0 c.ok t (fun y hy => h0 y (by simp [hy]))]
      have hall : (x :: t).filter (fun y => !(s.wait c x).F y) = x :: t := by
        refine List.filter_eq_self.2 (fun y hy => ?_)
        simp [As.wait, fire, hok, hF y hy]
      rw [hall]
      simp; omega

theorem filt_mono {F G : Nat → Bool} (h : ∀ y, F y = true → G y = true) (V : List Nat) : V.filter (fun y => !G y) = (V.filter (fun y => !F y)).filter (fun y => !G y) := by
  rw [List.filter_filter]
  refine List.filter_congr (fun y _ => ?_)
  cases hy : F y with
  | false => simp
  | true => simp [h y hy]

theorem filt_nil {G : Nat → Bool} {U : List Nat} (h : ∀ y ∈ U, G y = true) : U.filter (fun y => !G y) = [] := by
  refine List.filter_eq_nil_iff.2 (fun y hy => ?_)
  simp [h y hy]

/-- Waiting, nobody has extras. -/
theorem wait_plain {c : Cf} (s : As) (hsb : s.sb = none) (hnd : s.V.Nodup) (hB : s.V.length ≤ 2048) (hL : s.L.length + s.V.length ≤ 4096) :
    ∃ s' b, Wt c 1 s s' b ∧ s.V.foldl (gst s.F c.ok) (s.L, true, 0) = (s'.L, b, s'.U.length) ∧ s'.L.length ≤ s.L.length + s.V.length := by
  have hBs : s.B c := by simp [As.B, hsb]; exact hB
  have hUl : s.U.length ≤ s.V.length := List.length_filter_le _ _
  rw [fold_filter]
  by_cases hU : s.U = []
  · refine ⟨s, true, Wt.done 1 s hBs hU, ?_, by omega⟩
    rw [show s.V.filter (fun x => !s.F x) = [] from hU, hU]
    rfl
  · cases hr : s.run c s.U with
    | mk s1 b1 =>
      have hun : ∀ y ∈ s.U, s.F y = false := fun y hy => by simpa using (List.mem_filter.1 hy).2
      have hf := run_fold (c := c) (F0 := s.F) s.U s s1 b1 0 hun hun (hnd.sublist List.filter_sublist) hr
      have hn := run_none (c := c) s.U s hsb
      have hlen := run_len (c := c) s.U s
      rw [hr] at hn hlen
      have hU1 : s1.U = s.U.filter (fun y => !s1.F y) := by
        unfold As.U
        rw [show s1.V = s.V from hn.2]
        refine filt_mono (fun y hy => ?_) _
        have := run_mono (c := c) (y := y) s.U s hy
        rw [hr] at this
        exact this
      have hf' : (s.V.filter (fun x => !s.F x)).foldl (gst s.F c.ok) (s.L, true, 0) = (s1.L, b1, s1.U.length) := by
        rw [hU1]
        rw [Nat.zero_add] at hf
        exact hf
      have hl1 : s1.L.length ≤ s.L.length + s.V.length := by simp only at hlen; omega
      cases b1 with
      | false => exact ⟨s1, false, Wt.stop 1 s s1 hBs (by omega) hU hr, hf', hl1⟩
      | true =>
        have hnil : s1.U = [] := by rw [hU1]; exact filt_nil (run_true s.U s s1 hr)
        refine ⟨s1, true, Wt.more 0 s s1 s1 true hBs (by omega) hU hr (Wt.done 0 s1 ?_ hnil), hf', hl1⟩
        have e1 : s1.sb = none := hn.1
        have e2 : s1.V = s.V := hn.2
        simp [As.B, e1, e2]
        exact hB

/-- Waiting, the first that has not fired brings the extras. -/
theorem wait_extra {c : Cf} (s : As) (x : Nat) (t : List Nat) (hU : s.U = x :: t) (hsb : s.sb = some x) (hnd : (s.V ++ c.X).Nodup) (hv : s.V.length ≤ 1024) (hx : c.X.length ≤ 1024) (hL : s.L.length ≤ 1024) :
    ∃ s' b, Wt c 2 s s' b ∧ c.X.foldl (gst s.F c.ok) (s.V.foldl (gst s.F c.ok) (s.L, true, 0)) = (s'.L, b, s'.U.length) ∧ s'.L.length ≤ 4096 := by
  have hBs : s.B c := by simp [As.B, hsb]; omega
  have hUl : s.U.length ≤ s.V.length := List.length_filter_le _ _
  have hUn : s.U ≠ [] := by rw [hU]; simp
  have hnV : s.V.Nodup := (List.nodup_append.1 hnd).1
  have hdis : ∀ y ∈ c.X, y ∉ s.U := fun y hy hy2 => (List.nodup_append.1 hnd).2.2 y (List.mem_filter.1 hy2).1 y hy rfl
  rw [fold_filter s.F c.ok s.V]
  cases hr : s.run c s.U with
  | mk s1 b1 =>
    have hun : ∀ y ∈ s.U, s.F y = false := fun y hy => by simpa using (List.mem_filter.1 hy).2
    have hf : (s.V.filter (fun x => !s.F x)).foldl (gst s.F c.ok) (s.L, true, 0) = (s1.L, b1, 0 + (s.U.filter (fun y => !s1.F y)).length) := run_fold (c := c) (F0 := s.F) s.U s s1 b1 0 hun hun (hnV.sublist List.filter_sublist) hr
    have hn := run_head (c := c) x t s hsb
    rw [← hU] at hn
    have hlen := run_len (c := c) s.U s
    have hoth : ∀ y ∈ c.X, s1.F y = s.F y := fun y hy => by
      have := run_other (c := c) (y := y) s.U s (hdis y hy)
      rw [hr] at this
      exact this
    have hmono : ∀ y, s.F y = true → s1.F y = true := fun y hy => by
      have := run_mono (c := c) (y := y) s.U s hy
      rw [hr] at this
      exact this
    rw [hr] at hn hlen
    have e1 : s1.sb = none := hn.1
    have e2 : s1.V = s.V ++ c.X := hn.2
    have hlen' : s1.L.length ≤ s.L.length + s.U.length := hlen
    have hXf : c.X.filter (fun y => !s1.F y) = c.X.filter (fun y => !s.F y) := List.filter_congr (fun y hy => by rw [hoth y hy])
    have hU1 : s1.U.length = (s.U.filter (fun y => !s1.F y)).length + (c.X.filter (fun y => !s.F y)).length := by
      unfold As.U
      rw [e2, List.filter_append, List.length_append, hXf, filt_mono hmono s.V]
    rw [hf, fold_filter s.F c.ok c.X]
    cases b1 with
    | false =>
      refine ⟨s1, false, Wt.stop 2 s s1 hBs (by omega) hUn hr, ?_, by omega⟩
      rw [fold_false s.F c.ok _ (fun y hy => by simpa using (List.mem_filter.1 hy).2), hU1]
      simp
    | true =>
      have hall := run_true s.U s s1 hr
      have h0 : s.U.filter (fun y => !s1.F y) = [] := filt_nil hall
      obtain ⟨s', b, hW, hfo, hl⟩ := wait_plain (c := c) s1 e1 (by rw [e2]; exact hnd) (by rw [e2]; simp; omega) (by rw [e2]; simp; omega)
      refine ⟨s', b, Wt.more 1 s s1 s' b hBs (by omega) hUn hr hW, ?_, by rw [e2] at hl; simp at hl; omega⟩
      rw [h0, ← hfo, e2, List.foldl_append]
      have hid : s.V.foldl (gst s1.F c.ok) (s1.L, true, 0) = (s1.L, true, 0) := by
        rw [fold_filter, filt_mono hmono s.V, show s.V.filter (fun y => !s.F y) = s.U from rfl, h0]
        rfl
      rw [hid, ← fold_filter s.F c.ok c.X]
      exact (fold_congr s1.F s.F c.ok c.X hoth _).symm

end Go.Proofs.Ybulkonk
