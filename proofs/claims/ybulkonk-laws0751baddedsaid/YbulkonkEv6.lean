/-
  task.Events over the whole state: Add, pending, Pending; an event's Wait.
-/
import Derived.Test.YbulkonkEv5
import Derived.Deep.Cut
namespace Go.Proofs.Ybulkonk
open Go.RowKit Go.MuLone

theorem add_st {c : Cf} {eb : Nat → Nat} {D : Nat → Prop} {F : Nat → Bool} {sb : Option Nat} {V L : List Nat} {v : Value} {w : World} (h : St c eb D F sb V L v w) (hV : V.length ≤ 4096) {ys : List Nat} {g cap : Nat} (hr : EvRow eb ys g w) (hne : v.ownBlock ≠ some g) (hy0 : 0 < ys.length) (hy : ys.length ≤ 4096) (hd : ∀ x ∈ ys, D x) :
    Calls Yba.prog 13 #[.pointer (some ⟨c.evb, 0, none⟩), .slice (some ⟨g, 0, none⟩) ys.length cap] w fun r w' => r = .returned (.tuple #[]) ∧ ∃ v', St c eb D F sb (V ++ ys) L v' w' ∧ Ch c.lo v v' w w' := by
  obtain ⟨E, r, hs, hf⟩ := h.rw
  refine (add_any r (by have := hs.length_le; omega) hr hne hy0 hy (fun x hx => ⟨_, h.tab x (hd x hx), rfl⟩)).mono ?_
  rintro e w' ⟨rfl, v', E', r', t, hE'⟩
  refine ⟨rfl, v', h.turn r r' t ?_ ?_ (fun x hx => (List.mem_append.1 hx).elim (h.vd x) (hd x))⟩
  · refine List.Sublist.append ?_ (List.Sublist.refl _)
    rcases hE' with rfl | rfl
    · exact hs
    · exact List.filter_sublist.trans hs
  · rw [List.filter_append, List.filter_append, ← hf]
    rcases hE' with rfl | rfl
    · rfl
    · rw [List.filter_filter]; simp

theorem filt2 (F : Nat → Bool) (V : List Nat) : (V.filter (fun x => !F x)).filter (fun x => !F x) = V.filter (fun x => !F x) := by
  rw [List.filter_filter]; simp

theorem Pending_st {c : Cf} {eb : Nat → Nat} {D : Nat → Prop} {F : Nat → Bool} {sb : Option Nat} {V L : List Nat} {v : Value} {w : World} (h : St c eb D F sb V L v w) :
    Calls Yba.prog 18 #[.pointer (some ⟨c.evb, 0, none⟩)] w fun r w' => r = .returned (.int .i64 ((V.filter (fun x => !F x)).length : Nat)) ∧ ∃ v', St c eb D F sb V L v' w' ∧ Ch c.lo v v' w w' := by
  obtain ⟨E, r, hs, hf⟩ := h.rw
  refine (Pending_any r).mono ?_
  rintro e w' ⟨rfl, v', r', t⟩
  rw [hf] at r' ⊢
  exact ⟨rfl, v', h.turn r r' t List.filter_sublist (filt2 F V) h.vd⟩

theorem pending_st {c : Cf} {eb : Nat → Nat} {D : Nat → Prop} {F : Nat → Bool} {sb : Option Nat} {V L : List Nat} {v : Value} {w : World} (h : St c eb D F sb V L v w) (hV : V.length ≤ 4096) {U : List Nat} (hU : V.filter (fun x => !F x) = U) :
    Calls Yba.prog 23 #[.pointer (some ⟨c.evb, 0, none⟩)] w fun r w' => ∃ v', St c eb D F sb V L v' w' ∧ Ch c.lo v v' w w' ∧
      ((r = .returned (.slice none 0 0) ∧ U = []) ∨
       (∃ g cap, r = .returned (.slice (some ⟨g, 0, none⟩) U.length cap) ∧ 0 < U.length ∧ EvRow eb U g w' ∧ v'.ownBlock ≠ some g)) := by
  obtain ⟨E, r, hs, hf⟩ := h.rw
  refine (pending_any r (by have := hs.length_le; omega) (hf.trans hU)).mono ?_
  rintro e w' ⟨v', r', t, hc⟩
  have := h.turn r r' t (V' := V) (by rw [← hU]; exact List.filter_sublist) (by rw [← hU]; exact filt2 F V) h.vd
  exact ⟨v', this.1, this.2, hc⟩

theorem St.unsb {c : Cf} {eb : Nat → Nat} {D : Nat → Prop} {F : Nat → Bool} {sb : Option Nat} {V L : List Nat} {v : Value} {w : World} (h : St c eb D F sb V L v w) (hsv : c.sv = .slice none 0 0) : St c eb D F none V L v w :=
  ⟨h.ev, h.own, h.vd, fun y hy => by have := h.tab y hy; simpa [spv, hsv] using this, h.inj, h.log, h.xr, h.xd, fun y hy => (h.inn y hy).elim (fun k => Or.inl ⟨k.1, by simp⟩) Or.inr, h.l1, h.l2, h.l3, h.l4⟩

def fire (F : Nat → Bool) (x : Nat) (o : Bool) : Nat → Bool := fun y => F y || (y == x && o)

set_option maxHeartbeats 2000000 in
/-- Behind the log: the rest of an event's Wait. -/
theorem evwait {c : Cf} {eb : Nat → Nat} {D : Nat → Prop} {F : Nat → Bool} {sb : Option Nat} {V L : List Nat} {v : Value} {w : World} (h : St c eb D F sb V L v w) (hV : V.length ≤ 2048) (hX : c.X.length ≤ 2048) (hL : L.length ≤ 4096) {x : Nat} (hx : D x) (ctx : Value) {sb' : Option Nat} {V' : List Nat} (key : (sb = some x ∧ sb' = none ∧ V' = V ++ c.X) ∨ (sb ≠ some x ∧ sb' = sb ∧ V' = V)) :
    Calls Yba.prog 59 #[.pointer (some ⟨eb x, 0, none⟩), ctx] w fun r w' => r = .returned (.bool (c.ok x)) ∧ ∃ v', St c eb D (fire F x (c.ok x)) sb' V' (L ++ [x]) v' w' ∧ Ch c.lo v v' w w' := by
  obtain ⟨lv, hlv, hlo⟩ := h.log
  obtain ⟨lao, lc, rfl, _⟩ := own_shape hlo
  have hb := h.tab x hx
  have hl4 := h.l4
  have e0 := hb.cell 0
  have e3 := hb.cell 3
  have g0 := hlv.cell 0
  simp [evC] at e0 e3 g0
  have e0a : ∀ o, (w.alloc o).cell? ⟨eb x, 0, none⟩ = some (.int .i64 x) := fun o => ((hb.alloc o).cell 0).trans rfl
  have e3a : ∀ o, (w.alloc o).cell? ⟨eb x, 3, none⟩ = some (.pointer (some ⟨c.lgb, 0, none⟩)) := fun o => ((hb.alloc o).cell 3).trans rfl
  have g0a : ∀ o, (w.alloc o).cell? ⟨c.lgb, 0, none⟩ = some (.slice lao L.length lc) := fun o => ((hlv.alloc o).cell 0).trans rfl
  have n1 := own_ne hlo hlv (by decide)
  have n2 := own_ne hlo hb (by decide)
  go_enter Yba.func59, Yba.ntmps59
  go_wp2_with fail
  go_cut [] from 6 (fun wc => St c eb D F sb V (L ++ [x]) v wc ∧ Ch c.lo v v w wc)
  case first =>
    go_region_law (refine step_append1 rfl (.tmp 15) (.tmp 20) 48 rfl Yba.underlying48 info3 rfl (by simp [Act.eval]) (hlo.alloc _).drew (by simp; omega) (ad := ⟨w.heap.size, 0, none⟩) (c := 1) (by simp [Act.eval]) (y := .int .i64 x) (by simp [go_sem]) rfl (by unfold maxLen; omega) (by omega) ?_; intro g2 cap2 w4 hA; have q1 := (hA.undrew.blk (hlv.alloc _) n1).cell 0; have q2 := (hA.undrew.blk (hlv.alloc _) n1).frozen 0; have q3 := (hA.undrew.blk (hb.alloc _) n2).cell 3; simp [evC] at q1 q3)
    all_goals go_wp2
    all_goals go_meet
    all_goals exact h.logged hlv hlo x (by assumption : App _ _ _ _ _ _ _ _ _).undrew
  case rest =>
    clear hb hlv hlo e0 e3 g0 e0a e3a g0a n1 n2 hl4 h
    obtain ⟨h, ch⟩ := hcut
    have hb := h.tab x hx
    by_cases hsp : sb = some x ∧ 0 < c.X.length
    · obtain ⟨rfl, hX0⟩ := hsp
      obtain ⟨rfl, rfl⟩ : sb' = none ∧ V' = V ++ c.X := by
        rcases key with ⟨_, k⟩ | ⟨k, _⟩
        · exact k
        · exact absurd rfl k
      clear key
      have hinn : c.inn x = .pointer (some ⟨c.evb, 0, none⟩) := by
        rcases h.inn x hx with ⟨_, h2⟩ | h2
        · exact absurd rfl h2
        · exact h2
      obtain ⟨gx, cap, hsv, hrow, hng⟩ : ∃ gx cap, c.sv = .slice (some ⟨gx, 0, none⟩) c.X.length cap ∧ EvRow eb c.X gx wc ∧ v.ownBlock ≠ some gx := by
        rcases h.xr with ⟨_, h0⟩ | ⟨_, h0⟩
        · rw [h0] at hX0; simp at hX0
        · exact h0
      have e4 := hb.cell 4
      have e5 := hb.cell 5
      have f4 := hb.frozen 4
      simp [evC, spv, hinn, hsv] at e4 e5
      obtain ⟨h1, ch1⟩ := h.upd hx (F' := F) (sb' := none) 4 (.slice none 0 0) (by simp [evC, spv]) (fun y _ hy => ⟨rfl, by simp [spv, Ne.symm hy]⟩) (fun _ hy => hy) (fun y hy => by cases hy)
      obtain ⟨hrow1, hng1⟩ := ch1.evrow hrow hng
      have HA := add_st (cap := cap) h1 (by omega) hrow1 hng1 hX0 (by omega) h.xd
      have hb1 := h1.tab x hx
      have e51 := hb1.cell 5
      simp [evC, hinn] at e51
      clear h hb
      go_wp2_with fail
      refine HA.mono ?_
      rintro r w2 ⟨rfl, v2, h2, ch2⟩
      clear HA e51 hrow1 hb1 h1
      have hb2 := h2.tab x hx
      have k2 := hb2.cell 2
      have k1 := hb2.cell 1
      have kf := hb2.frozen 1
      simp [evC] at k2 k1
      cases hok : c.ok x with
      | true =>
        rw [hok] at k2
        have h3 := h2.upd hx (F' := fire F x true) (sb' := none) 1 (.bool true) (by simp [evC, fire]) (fun y _ hy => ⟨by simp [fire, hy], rfl⟩) (fun y hy => by simp [fire, hy]) (fun y hy => hy)
        clear hb2 h2
        go_wp2
        go_ret
        rw [hok]
        exact ⟨rfl, _, h3.1, ch.trans (ch1.trans (ch2.trans h3.2))⟩
      | false =>
        rw [hok] at k2
        have hF : fire F x false = F := by funext y; simp [fire]
        clear hb2
        go_wp2
        go_ret
        rw [hok, hF]
        exact ⟨rfl, _, h2, ch.trans (ch1.trans ch2)⟩
    · have hspv : spv c sb x = .slice none 0 0 := by
        unfold spv
        by_cases e : sb = some x
        · rw [if_pos e]
          rcases h.xr with ⟨h0, _⟩ | ⟨h0, _⟩
          · exact h0
          · exact absurd ⟨e, h0⟩ hsp
        · rw [if_neg e]
      have h1 : St c eb D F sb' V' (L ++ [x]) v wc := by
        rcases key with ⟨e, rfl, rfl⟩ | ⟨_, rfl, rfl⟩
        · have hX0 : c.X = [] := by
            rcases h.xr with ⟨_, h0⟩ | ⟨h0, _⟩
            · exact h0
            · exact absurd ⟨e, h0⟩ hsp
          rw [hX0, List.append_nil]
          refine h.unsb ?_
          rw [spv, if_pos e] at hspv
          exact hspv
        · exact h
      have e4 := hb.cell 4
      have e5 := hb.cell 5
      have k2 := hb.cell 2
      have k1 := hb.cell 1
      have kf := hb.frozen 1
      simp [evC, hspv] at e4 e5 k2 k1
      have hi := h.inn x hx
      clear h hb hsp key
      have h3 := h1.upd hx (F' := fire F x true) (sb' := sb') 1 (.bool true) (by simp [evC, fire]) (fun y _ hy => ⟨by simp [fire, hy], rfl⟩) (fun y hy => by simp [fire, hy]) (fun y hy => hy)
      have hF : fire F x false = F := by funext y; simp [fire]
      rcases hi with ⟨hi, _⟩ | hi
      · rw [hi] at e5
        cases hok : c.ok x with
        | true =>
          rw [hok] at k2
          clear h1
          go_wp2
          go_ret
          rw [hok]
          exact ⟨rfl, _, h3.1, ch.trans h3.2⟩
        | false =>
          rw [hok] at k2
          clear h3
          go_wp2
          go_ret
          rw [hok, hF]
          exact ⟨rfl, _, h1, ch⟩
      · rw [hi] at e5
        cases hok : c.ok x with
        | true =>
          rw [hok] at k2
          clear h1
          go_wp2
          go_ret
          rw [hok]
          exact ⟨rfl, _, h3.1, ch.trans h3.2⟩
        | false =>
          rw [hok] at k2
          clear h3
          go_wp2
          go_ret
          rw [hok, hF]
          exact ⟨rfl, _, h1, ch⟩

end Go.Proofs.Ybulkonk
