/-
  task.Events.prune.
-/
import Derived.Test.YbulkonkEv1
namespace Go.Proofs.Ybulkonk
open Go.RowKit Go.MuLone

def evsC (lk : Int) (v : Value) : Array Value := #[.int .i32 lk, .int .u32 0, v]

/-- What prune leaves. -/
structure Pd (F : Nat → Bool) (E : List Nat) (eb : Nat → Nat) (evb lo : Nat) (lk : Int) (v v' : Value) (w w' : World) : Prop where
  ev : Blk w' evb (evsC lk v') 51
  own : w'.ownsRow lo 85 1 v' (E.filter (fun x => !F x)).length ((E.filter (fun x => !F x)).map (evv eb))
  same : v'.ownBlock = v.ownBlock
  fr : Fr (fun k => k = evb ∨ v.ownBlock = some k) w w'

set_option maxRecDepth 100000 in
set_option maxHeartbeats 1000000 in
theorem prune_nil (F : Nat → Bool) (eb : Nat → Nat) (evb lo : Nat) (lk : Int) (w : World) (h : Blk w evb (evsC lk (.slice none 0 0)) 51) :
    Calls Yba.prog 22 #[.pointer (some ⟨evb, 0, none⟩)] w fun r w' => r = .returned (.tuple #[]) ∧ Pd F [] eb evb lo lk (.slice none 0 0) (.slice none 0 0) w w' := by
  have c2 := h.cell 2
  have f2 := h.frozen 2
  simp [evsC] at c2
  go_enter Yba.func22, Yba.ntmps22
  go_wp2
  refine wp_loop_rounds 1 ?_
  rw [rounds_succ]
  go_wp2_with (refine wpList_clear_none _ rfl _ 49 rfl Yba.underlying49 rfl ?_)
  go_wp2
  go_end0
  refine ⟨rfl, ⟨?_, by simpa using World.ownsRow_nil _ _ _ _, rfl, (Fr.refl _ _).setCell (Or.inr (Or.inl rfl)) _⟩⟩
  have := h.setSame 2 (.slice none 0 0)
  simpa [evsC] using this

set_option maxRecDepth 100000 in
set_option maxHeartbeats 1000000 in
theorem prune_row (F : Nat → Bool) (E : List Nat) (eb : Nat → Nat) (evb lo g cap : Nat) (lk : Int) (w : World) (h : Blk w evb (evsC lk (.slice (some ⟨g, 0, none⟩) E.length cap)) 51)
    (ho : w.ownsRow lo 85 1 (.slice (some ⟨g, 0, none⟩) E.length cap) E.length (E.map (evv eb))) (ht : ∀ x ∈ E, ∃ c, Blk w (eb x) c 59 ∧ c[1]? = some (.bool (F x))) :
    Calls Yba.prog 22 #[.pointer (some ⟨evb, 0, none⟩)] w fun r w' => r = .returned (.tuple #[]) ∧ ∃ v', Pd F E eb evb lo lk (.slice (some ⟨g, 0, none⟩) E.length cap) v' w w' := by
  obtain ⟨cur0, hb0, hcap, hlo, hle, htk⟩ : ∃ cur, Blk w g cur 85 ∧ cur.size = cap ∧ lo ≤ g ∧ E.length ≤ cap ∧ cur.toList.take E.length = E.map (evv eb) := by
    rcases ho.2 with ⟨h0, _⟩ | ⟨g', cap', cur, hv, hg, hh, h1, h2, h3, h4⟩
    · simp at h0
    · simp at hv
      obtain ⟨rfl, rfl⟩ := hv
      exact ⟨cur, hh, by simpa using h3, hg, h1, by simpa using h4⟩
  have hcm : cap ≤ maxLen := by
    rcases ho.2 with ⟨h0, _⟩ | ⟨g', cap', cur, hv, hg, hh, h1, h2, h3, h4⟩
    · simp at h0
    · simp at hv
      obtain ⟨rfl, rfl⟩ := hv
      exact h2
  have hne : evb ≠ g := fun e => by
    subst e; unfold Blk at h hb0; rw [h] at hb0; simp at hb0
  have c2 := h.cell 2
  simp [evsC] at c2
  have hP0 : Pr F E eb w g cap 0 w := by
    refine ⟨⟨cur0, hb0, hcap, by simp [fl], fun j _ hj => ?_⟩, Fr.refl _ _⟩
    have h1 : (cur0.toList.take E.length)[j]? = (E.map (evv eb))[j]? := by rw [htk]
    rw [List.getElem?_take_of_lt hj] at h1
    simpa [hj] using h1
  unfold maxLen at hcm
  clear ho htk
  go_enter Yba.func22, Yba.ntmps22
  go_wp2
  go_loopw [2, 15] (fun s c wr => ∃ i : Nat, i ≤ E.length ∧ c = .int .i64 i ∧ s = .slice (some ⟨g, 0, none⟩) (fl F E i).length cap ∧ Pr F E eb w g cap i wr) (fun _ c _ => E.length - (intOf c).toNat)
  case atStart => exact ⟨0, Nat.zero_le _, rfl, by simp [fl], hP0⟩
  case round =>
    clear hP0
    obtain ⟨i, hi, rfl, rfl, hP⟩ := hrel
    have hfl := fl_le F E i
    by_cases hlt : i < E.length
    · obtain ⟨cur, hcur, hcs, _, hat⟩ := hP.row
      have hc := (hcur.cell i).trans (hat i (Nat.le_refl _) hlt)
      simp only [evv] at hc
      have hgE : g < wr.heap.size := hcur.lt
      obtain ⟨ce, hbe, hfe⟩ := ht E[i] (List.getElem_mem hlt)
      have hge : eb E[i] ≠ g := fun e => by
        rw [e] at hbe; unfold Blk at hbe hb0; rw [hb0] at hbe; simp at hbe
      have hbr : Blk wr (eb E[i]) ce 59 := hP.fr.blk hbe hge
      have HF := fired_any _ _ _ wr hbr hfe
      clear hat
      have tok : True := trivial
      cases hF : F E[i] with
      | true =>
        have hP' := pr_skip hP hlt hF
        have he : (fl F E (i + 1)).length = (fl F E i).length := by rw [fl_succ F E i hlt, hF]; simp
        rw [hF] at HF
        clear hP hF ht
        go_wp2_with (have _t := tok; refine wpList_invoke _ rfl _ _ _ _ rfl (evv eb E[i]) rfl #[] (by simp) 58 #[.pointer (some ⟨eb E[i], 0, none⟩)] ?_ ?_; kernel_rfl; refine HF.mono ?_; rintro r w' ⟨rfl, hw⟩; obtain rfl := hw.symm; clear tok)
        go_wp2
        go_roundw
        case rel => exact ⟨i + 1, by omega, by go_num, by rw [he], hP'⟩
        case measure => simp [intOf]; omega
      | false =>
        have hP' := pr_keep hP hlt hF hle hcur
        rw [hF] at HF
        clear hP hF ht
        go_wp2_with (first
          | (have _t := tok; refine wpList_invoke _ rfl _ _ _ _ rfl (evv eb E[i]) rfl #[] (by simp) 58 #[.pointer (some ⟨eb E[i], 0, none⟩)] ?_ ?_; kernel_rfl; refine HF.mono ?_; rintro r w' ⟨rfl, hw⟩; obtain rfl := hw.symm; clear tok)
          | (at_builtin; refine wpList_room1 _ rfl _ _ 49 rfl Yba.underlying49 info85 rfl (hcur.alloc _) hcs ?c1 (ad := ⟨wr.heap.size, 0, none⟩) (c := 1) rfl (y := evv eb E[i]) ?c2 rfl ?_))
        case c1 => omega
        case c2 => simp [go_sem, evv]
        have hP2 := (hP' (.cells #[evv eb E[i]] 85)).2
        go_wp2
        go_roundw
        case rel => exact ⟨i + 1, by omega, by go_num, by rw [hP2], (hP' _).1⟩
        case measure => simp [intOf]; omega
    · have hin : i = E.length := by omega
      subst hin
      obtain ⟨cur, hcur, hcs, hpre, _⟩ := hP.row
      have hfr := hP.fr
      have hev := hfr.blk h hne
      have e2 := hev.cell 2
      have f2 := hev.frozen 2
      simp [evsC] at e2
      rw [fl_all] at *
      generalize hU : E.filter (fun x => !F x) = U at *
      clear hP ht
      have tail : ∀ (cur' : Array Value) (wx : World), Blk wx g cur' 85 → cur'.size = cap → cur'.toList.take U.length = U.map (evv eb) → Fr (fun k => k = g) w wx → Pd F E eb evb lo lk (.slice (some ⟨g, 0, none⟩) E.length cap) (.slice (some ⟨g, 0, none⟩) U.length cap) w (wx.setCell ⟨evb, 2, none⟩ (.slice (some ⟨g, 0, none⟩) U.length cap)) := by
        intro cur' wx hx hs hp hf
        refine ⟨?_, ?_, rfl, ?_⟩
        · have := (hf.blk h hne).setSame 2 (.slice (some ⟨g, 0, none⟩) U.length cap)
          simpa [evsC] using this
        · rw [hU]
          exact ⟨by simp, Or.inr ⟨g, cap, cur', rfl, hlo, hx.setOther hne _, by omega, by unfold maxLen; omega, by simpa using hs, by simpa using hp⟩⟩
        · exact (hf.mono (fun k hk => by subst hk; exact Or.inr rfl)).setCell (Or.inr (Or.inl rfl)) _
      by_cases hm : U.length < E.length
      · go_wp2_with (refine wpList_clear_row _ rfl _ 49 rfl Yba.underlying49 info85 (g := g) rfl ?c2 hcur ?c3 ?_)
        case c2 => omega
        case c3 => omega
        intro cur' hs' ht'
        have T := tail cur' (wr.setRow g cur') (setRow_blk hcur) (by omega) ht' (hfr.setRow (Or.inr rfl) _)
        have hev' := (hfr.setRow (c := cur') (Or.inr rfl)).blk h hne
        have e2' := hev'.cell 2
        have f2' := hev'.frozen 2
        simp [evsC] at e2'
        clear hpre tail
        go_wp2
        go_end0
        exact ⟨rfl, _, T⟩
      · have hm' : U.length = E.length := by omega
        have T := tail cur wr hcur hcs hpre hfr
        rw [hm'] at T
        clear hpre tail
        by_cases hce : cap = E.length
        · subst hce
          go_wp2_with (refine wpList_clear_none _ rfl _ 49 rfl Yba.underlying49 rfl ?_)
          go_wp2
          go_end0
          exact ⟨rfl, _, T⟩
        · go_wp2_with (refine wpList_clear_none _ rfl _ 49 rfl Yba.underlying49 rfl ?_)
          go_wp2
          go_end0
          exact ⟨rfl, _, T⟩

end Go.Proofs.Ybulkonk
